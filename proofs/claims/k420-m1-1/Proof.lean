import JvmDerived
import JvmDerived.Pilot.@@N@@Statement
import JvmDerived.Pilot.@@N@@Code
set_option linter.unusedVariables false
set_option linter.unusedSimpArgs false
@@BLOCK:NumsL.lean.txt@@
namespace Jvm.RoadKit
open Sem ClassFile Op Lib Jvm.Stand Jvm.Free Jvm.LawKit
section New
variable {p : Program} {l : Launch} {e : Env} {R : Room} {s : State} {m : MethodId} {args : Array Value} {below : List Frame} {meth : Method} {c : Code} {T : State} {locs : List Loc} {cells slots : Nat}
theorem retI (X : Stand p l e R s m args below meth c T locs cells slots) (hx : p.tables.exec = Jvm.exec) {pc : Nat} {Ls : Array Slot} {z : Int32} {rest : List Value} (hret : meth.sig.returnType = some .int) (hd : decode c.code pc = .ok (.ireturn, 1)) {fs : List Frame}
    (hl : ∀ (f : JFrame) (acts : List Action), f.method = m → f.locked = none → f.entered = [] → (doReturn e (T.setTop f) acts (some (.int z))).1 = T.setFrames fs) : Steps p.tables e below (T.setTop (mkF m pc Ls (.int z :: rest))) (T.setFrames fs) := by
  have hm' : T.vm.method? m = some meth := X.method'
  have hn : narrow .int (.int z) = .int z := rfl
  show Steps p.tables e below (T.setTop { method := m, pc := pc, locals := Ls, stack := _ :: rest, locked := none }) _
  jvm_step X.here [X.here.top, hx, hd, hm', hret, hn]
  first | (intro acts; rw [hl _ acts rfl rfl rfl]) | rw [hl _ _ rfl rfl rfl]
  exact Steps.refl _
/-- the run from A comes to a return of which F says the value, the heap and the written places -/
def own_Goes (p : Program) (e : Env) (below : List Frame) (s : State) (F : Option Value → Heap → List Loc → Prop) (k n : Nat) (A : State) : Prop :=
  ∃ s₂ o, Steps p.tables e below A s₂ ∧ s₂.status = .running ∧ Ended s₂ below o ∧ ∃ v L, o = .returned v ∧ F v s₂.heap L ∧ FrameEnd s o s₂ L k n
variable {F : Option Value → Heap → List Loc → Prop} {k n : Nat}
theorem own_Goes.step {A B : State} (h : ∀ t, Steps p.tables e below B t → Steps p.tables e below A t) (g : own_Goes p e below s F k n B) : own_Goes p e below s F k n A := by
  obtain ⟨s₂, o, h1, h2⟩ := g
  exact ⟨s₂, o, h _ h1, h2⟩
theorem own_endI (X : Stand p l e R s m args below meth c T locs cells slots) (hx : p.tables.exec = Jvm.exec) (hlk : meth.locks = false) {pc : Nat} {Ls : Array Slot} {z : Int32} {rest : List Value} (hret : meth.sig.returnType = some .int) (hd : decode c.code pc = .ok (.ireturn, 1)) (hF : F (some (.int z)) T.heap locs) (hk : cells ≤ k) (hn : slots ≤ n) :
    own_Goes p e below s F k n (T.setTop (mkF m pc Ls (.int z :: rest))) := by
  obtain ⟨fs, hr, hrun, hended, hW, hsame⟩ := X.leave (v := some (.int z)) (fun h => by rw [hret] at h; cases h) hlk
  exact ⟨_, _, retI X hx hret hd hr, hrun, hended, _, _, rfl, hF, ⟨_, rfl⟩, hW, hsame.mono hk hn⟩
theorem own_endN (X : Stand p l e R s m args below meth c T locs cells slots) (hx : p.tables.exec = Jvm.exec) (hlk : meth.locks = false) {pc : Nat} {Ls : Array Slot} {z : Int32} {t : FieldType} {rest : List Value} (hret : meth.sig.returnType = some t) (ht : t = .boolean ∨ t = .byte ∨ t = .char ∨ t = .short) (hd : decode c.code pc = .ok (.ireturn, 1)) (hF : F (some (.int (nar t z))) T.heap locs) (hk : cells ≤ k) (hn : slots ≤ n) :
    own_Goes p e below s F k n (T.setTop (mkF m pc Ls (.int z :: rest))) := by
  obtain ⟨fs, hr, hrun, hended, hW, hsame⟩ := X.leave (v := some (.int (nar t z))) (fun h => by rw [hret] at h; cases h) hlk
  exact ⟨_, _, retN X hx hret ht hd hr, hrun, hended, _, _, rfl, hF, ⟨_, rfl⟩, hW, hsame.mono hk hn⟩
theorem own_endJ (X : Stand p l e R s m args below meth c T locs cells slots) (hx : p.tables.exec = Jvm.exec) (hlk : meth.locks = false) {pc : Nat} {Ls : Array Slot} {z : Int64} (hret : meth.sig.returnType = some .long) (hd : decode c.code pc = .ok (.lreturn, 1)) (hF : F (some (.long z)) T.heap locs) (hk : cells ≤ k) (hn : slots ≤ n) :
    own_Goes p e below s F k n (T.setTop (mkF m pc Ls [.long z])) := by
  obtain ⟨fs, hr, hrun, hended, hW, hsame⟩ := X.leave (v := some (.long z)) (fun h => by rw [hret] at h; cases h) hlk
  exact ⟨_, _, X.lreturnOut hx hret hd hr, hrun, hended, _, _, rfl, hF, ⟨_, rfl⟩, hW, hsame.mono hk hn⟩
theorem own_endV (X : Stand p l e R s m args below meth c T locs cells slots) (hx : p.tables.exec = Jvm.exec) (hlk : meth.locks = false) {pc : Nat} {Ls : Array Slot} (hret : meth.sig.returnType = none) (hd : decode c.code pc = .ok (.return_, 1)) (hF : F none T.heap locs) (hk : cells ≤ k) (hn : slots ≤ n) :
    own_Goes p e below s F k n (T.setTop (mkF m pc Ls [])) := by
  obtain ⟨fs, hr, hrun, hended, hW, hsame⟩ := X.leave (v := none) (fun _ => rfl) hlk
  exact ⟨_, _, X.returnOut hx hret hd hr, hrun, hended, _, _, rfl, hF, ⟨_, rfl⟩, hW, hsame.mono hk hn⟩
theorem own_endA (X : Stand p l e R s m args below meth c T locs cells slots) (hx : p.tables.exec = Jvm.exec) (hlk : meth.locks = false) {pc : Nat} {Ls : Array Slot} {w : Value} {t : FieldType} (hw : w.isRef = true) (hret : meth.sig.returnType = some t) (ht : t.isReference = true) (hd : decode c.code pc = .ok (.areturn, 1)) (hF : F (some w) T.heap locs) (hk : cells ≤ k) (hn : slots ≤ n) :
    own_Goes p e below s F k n (T.setTop (mkF m pc Ls [w])) := by
  obtain ⟨fs, hr, hrun, hended, hW, hsame⟩ := X.leave (v := some w) (fun h => by rw [hret] at h; cases h) hlk
  exact ⟨_, _, X.areturnOut hx hw hret ht hd hr, hrun, hended, _, _, rfl, hF, ⟨_, rfl⟩, hW, hsame.mono hk hn⟩
theorem own_lrem (x y : Int64) : x - x / y * y = x % y := by
  refine Int64.toInt_inj.mp ?_
  rw [Jvm.Kit.i64_rem, Int64.toInt_mod]
theorem own_lremM {g : JFrame} {target : State} (X : Stand p l e R s m args below meth c T locs cells slots) (hx : p.tables.exec = Jvm.exec) (hg : g.method = m) {x y : Int64} {rest : List Value} (hd : decode c.code g.pc = .ok (.lrem, 1)) (hs : g.stack = .long y :: .long x :: rest) (hy : y ≠ 0)
    (hr : Steps p.tables e below (T.setTop { g with pc := g.pc + 1, stack := .long (x % y) :: rest }) target) : Steps p.tables e below (T.setTop g) target :=
  XT.lrem X.here hx hg hd hs hy (by rw [own_lrem]; exact hr)
/-- the three calls, by a contract in this family, carried forward -/
theorem own_stat {Z : State} {a0 : Array Value} {h : Heap} (X : Stand p l e R s m args below meth c T locs cells slots) (hx : p.tables.exec = Jvm.exec) (hZ : Z.Warmed39 s.vm) (eT : T.heap = h) {own : String} {index : Nat} {y : MethodName} {bytes : ByteArray} {maxL : Nat} {ret : Option FieldType} {rm : Room} {W : Nat} {argsL rest : List Value} {Q : Option Value → Heap → List Loc → Prop}
    (hown : s.vm.findClass own = some m.cls) (wl : (Cond.methodLink own index y).before a0 Z = true) (wst : (Cond.static y).before a0 Z = true) (wi : (Cond.initialized y.cls).before a0 Z = true) (wc : (Cond.code y bytes maxL ret).before a0 Z = true) (hy : y.cls ≠ "java/lang/invoke/MethodHandle" ∧ y.cls ≠ "java/lang/invoke/VarHandle")
    (hM : MetFree l y (head1 [Cond.code y bytes maxL ret] rm) (fun a U => a = argsL.toArray ∧ Z.Warmed39 U.vm ∧ U.heap = h) (fun _ _ _ _ _ => True) (fun _ U o U' => ∃ w L, o = .returned w ∧ Q w U'.heap L ∧ FrameEnd U o U' L rm.cells rm.slots))
    (hf : rm.frames + 1 ≤ R.frames) (hl : W + (maxL + 11) + rm.locals ≤ R.locals) (hcells : cells + rm.cells ≤ R.cells) (hslots : slots + rm.slots ≤ R.slots)
    {g : JFrame} (hg : g.method = m) (hsize : g.locals.size = c.maxLocals) (hlen : ∀ sig, parseMethodDescriptor y.desc = some sig → argsL.length = sig.parameters.length) (hstack : g.stack = argsL.reverse ++ rest) (hW : 2 * g.monitorRoom + (rest.map fun v => v.category).sum ≤ W) (hdg : decode c.code g.pc = .ok (.invokestatic index, 3)) :
    ∃ w T' L, Q w T'.heap L ∧ Stand p l e R s m args below meth c T' (locs ++ L) (cells + rm.cells) (slots + rm.slots) ∧ ∀ t, Steps p.tables e below (T'.setTop { g with pc := g.pc + 3, stack := w.toList ++ rest }) t → Steps p.tables e below (T.setTop g) t := by
  have hB := backOf (R := R) (p := p) (e := e) (below := below) (args := args) (len := 3) (W := W) (Q := Q) hM hZ wc wi hf hl
  obtain ⟨w, vm₁, ⟨U, Lc, k1, n1⟩, -, X', ⟨L, hQ, hL, hC, hS⟩, st⟩ := Jvm.LawKit.callS X hx (y := y) hown (mvT hZ wl) (mvT hZ wst) (mvT hZ wi) (mvT hZ wc) hy hB (g := g) hg hsize hlen hstack hW hdg (fun _ _ => ⟨rfl, eT, hcells, hslots⟩)
  dsimp only [Pt.U, Pt.locs, Pt.cells, Pt.slots] at X' hQ hL hC hS st
  subst hL hC hS
  exact ⟨w, U, L, hQ, X', st⟩
theorem own_spec {Z : State} {a0 : Array Value} {h : Heap} (X : Stand p l e R s m args below meth c T locs cells slots) (hx : p.tables.exec = Jvm.exec) (hZ : Z.Warmed39 s.vm) (eT : T.heap = h) {own : String} {index : Nat} {y : MethodName} {bytes : ByteArray} {maxL : Nat} {rm : Room} {W : Nat} {a : Addr} {argsL rest : List Value} {Q : Option Value → Heap → List Loc → Prop}
    (hy1 : y.name = "<init>") (hown : s.vm.findClass own = some m.cls) (wl : (Cond.methodLink own index y).before a0 Z = true) (wst : (Cond.instanceMethod y).before a0 Z = true) (wi : (Cond.initialized y.cls).before a0 Z = true) (wc : (Cond.code y bytes maxL none).before a0 Z = true) (hy : y.cls ≠ "java/lang/invoke/MethodHandle" ∧ y.cls ≠ "java/lang/invoke/VarHandle")
    (hM : MetFree l y (head1 [Cond.code y bytes maxL none] rm) (fun b U => b = (.ref a :: argsL).toArray ∧ Z.Warmed39 U.vm ∧ U.heap = h) (fun _ _ _ _ _ => True) (fun _ U o U' => ∃ w L, o = .returned w ∧ Q w U'.heap L ∧ FrameEnd U o U' L rm.cells rm.slots))
    (hf : rm.frames + 1 ≤ R.frames) (hl : W + (maxL + 11) + rm.locals ≤ R.locals) (hcells : cells + rm.cells ≤ R.cells) (hslots : slots + rm.slots ≤ R.slots)
    {g : JFrame} (hg : g.method = m) (hsize : g.locals.size = c.maxLocals) (hlen : ∀ sig, parseMethodDescriptor y.desc = some sig → argsL.length = sig.parameters.length) (hstack : g.stack = argsL.reverse ++ .ref a :: rest) (hW : 2 * g.monitorRoom + (rest.map fun v => v.category).sum ≤ W) (hdg : decode c.code g.pc = .ok (.invokespecial index, 3)) :
    ∃ w T' L, Q w T'.heap L ∧ Stand p l e R s m args below meth c T' (locs ++ L) (cells + rm.cells) (slots + rm.slots) ∧ ∀ t, Steps p.tables e below (T'.setTop { g with pc := g.pc + 3, stack := w.toList ++ rest }) t → Steps p.tables e below (T.setTop g) t := by
  have hB := backOf (R := R) (p := p) (e := e) (below := below) (args := args) (len := 3) (W := W) (Q := Q) hM hZ wc wi hf hl
  obtain ⟨w, vm₁, ⟨U, Lc, k1, n1⟩, -, X', ⟨L, hQ, hL, hC, hS⟩, st⟩ := X.specialBack hx (y := y) hy1 hown (mvT hZ wl) (mvT hZ wst) (mvT hZ wc) hy hB (g := g) hg hsize (Steps.refl _) (a := a) hlen hstack hW hdg (fun _ _ => ⟨rfl, eT, hcells, hslots⟩)
  dsimp only [Pt.U, Pt.locs, Pt.cells, Pt.slots] at X' hQ hL hC hS st
  subst hL hC hS
  exact ⟨w, U, L, hQ, X', fun t k => st.trans k⟩
theorem own_virt {Z : State} {a0 : Array Value} {h : Heap} (X : Stand p l e R s m args below meth c T locs cells slots) (hx : p.tables.exec = Jvm.exec) (hZ : Z.Warmed39 s.vm) (eT : T.heap = h) {own C : String} {index : Nat} {y : MethodName} {bytes : ByteArray} {maxL : Nat} {ret : Option FieldType} {rm : Room} {W : Nat} {a : Addr} {argsL rest : List Value} {Q : Option Value → Heap → List Loc → Prop}
    (E : Exa Z h a C) (hown : s.vm.findClass own = some m.cls) (wl : (Cond.methodLink own index y).before a0 Z = true) (wd : (Cond.declares y).before a0 Z = true) (ws : (Cond.selects C y y).before a0 Z = true) (wst : (Cond.instanceMethod y).before a0 Z = true) (wi : (Cond.initialized y.cls).before a0 Z = true) (wc : (Cond.code y bytes maxL ret).before a0 Z = true) (hy : y.cls ≠ "java/lang/invoke/MethodHandle" ∧ y.cls ≠ "java/lang/invoke/VarHandle")
    (hM : MetFree l y (head1 [Cond.code y bytes maxL ret] rm) (fun b U => b = (.ref a :: argsL).toArray ∧ Z.Warmed39 U.vm ∧ U.heap = h) (fun _ _ _ _ _ => True) (fun _ U o U' => ∃ w L, o = .returned w ∧ Q w U'.heap L ∧ FrameEnd U o U' L rm.cells rm.slots))
    (hf : rm.frames + 1 ≤ R.frames) (hl : W + (maxL + 11) + rm.locals ≤ R.locals) (hcells : cells + rm.cells ≤ R.cells) (hslots : slots + rm.slots ≤ R.slots)
    {g : JFrame} (hg : g.method = m) (hsize : g.locals.size = c.maxLocals) (hlen : ∀ sig, parseMethodDescriptor y.desc = some sig → argsL.length = sig.parameters.length) (hstack : g.stack = argsL.reverse ++ .ref a :: rest) (hW : 2 * g.monitorRoom + (rest.map fun v => v.category).sum ≤ W) (hdg : decode c.code g.pc = .ok (.invokevirtual index, 3)) :
    ∃ w T' L, Q w T'.heap L ∧ Stand p l e R s m args below meth c T' (locs ++ L) (cells + rm.cells) (slots + rm.slots) ∧ ∀ t, Steps p.tables e below (T'.setTop { g with pc := g.pc + 3, stack := w.toList ++ rest }) t → Steps p.tables e below (T.setTop g) t := by
  have hB := backOf (R := R) (p := p) (e := e) (below := below) (args := args) (len := 3) (W := W) (Q := Q) hM hZ wc wi hf hl
  obtain ⟨cq, kq, qa, qb, qc⟩ := isOf hZ eT E
  obtain ⟨w, vm₁, ⟨U, Lc, k1, n1⟩, -, X', ⟨L, hQ, hL, hC, hS⟩, st⟩ := X.virtualBack hx (y := y) (z := y) hown (mvT hZ wl) (mvT hZ wd) (notFace_of_selects (args := #[]) (mvT hZ ws)) (mvT hZ ws) (mvT hZ wst) hy hB qa qc (g := g) hg hsize (Steps.refl _) hlen hstack hW hdg (fun _ _ => ⟨rfl, eT, hcells, hslots⟩)
  dsimp only [Pt.U, Pt.locs, Pt.cells, Pt.slots] at X' hQ hL hC hS st
  subst hL hC hS
  exact ⟨w, U, L, hQ, X', fun t k => st.trans k⟩
/-- a call that left nothing behind -/
theorem own_clean {h : Heap} {w v : Option Value} {T' : State} {L : List Loc} {k0 n0 : Nat} (q : w = v ∧ L = [] ∧ T'.heap = h) (X : Stand p l e R s m args below meth c T' (locs ++ L) (cells + k0) (slots + n0)) (hk : k0 = 0) (hn : n0 = 0) : T'.heap = h ∧ Stand p l e R s m args below meth c T' locs cells slots := by
  obtain ⟨-, rfl, hh⟩ := q
  subst hk hn
  rw [List.append_nil] at X
  exact ⟨hh, X⟩
theorem own_nin {a b : Addr} (q : b ≠ a) : b ∉ [a] := fun h => q (List.mem_singleton.mp h)
theorem own_kt {h0 : Heap} {ws : List Addr} {a : Addr} (q : a ∈ ws ∨ h0.size ≤ a) : ∀ x ∈ [a], x ∈ ws ∨ h0.size ≤ x := fun x hx => by
  cases List.mem_singleton.mp hx; exact q
end New
end Jvm.RoadKit
namespace Jvm.RoadKit
open Sem ClassFile Op Lib Jvm.Stand Jvm.Free Jvm.LawKit
section Arrays
variable {p : Program} {l : Launch} {e : Env} {R : Room} {s : State} {m : MethodId} {args : Array Value} {below : List Frame} {meth : Method} {c : Code} {T : State} {locs : List Loc} {cells slots : Nat} {Z : State} {a0 : Array Value} {h h' : Heap} {a b : Addr} {ty : FieldType} {n : Nat} {f : Nat → Value}
/-- an array of n places; place i holds f i -/
def own_Ar (Z : State) (h : Heap) (a : Addr) (ty : FieldType) (n : Nat) (f : Nat → Value) : Prop := ∃ c : Cell, Arr Z h a c ty ∧ c.slots.size = n ∧ ∀ i, i < n → c.slots[i]? = some (f i)
theorem own_Ar.lt (F : own_Ar Z h a ty n f) : a < h.size := by obtain ⟨c, A, -⟩ := F; exact A.lt
theorem own_Ar.ext (F : own_Ar Z h a ty n f) (E : Ext h h') : own_Ar Z h' a ty n f := by obtain ⟨c, A, r⟩ := F; exact ⟨c, A.ext E, r⟩
theorem own_Ar.keep {ws : List Addr} (F : own_Ar Z h a ty n f) (K : Keep h h' ws) (q : a ∉ ws) : own_Ar Z h' a ty n f := by obtain ⟨c, A, r⟩ := F; exact ⟨c, ⟨K.2.1 a c A.1 q, A.2⟩, r⟩
theorem own_Ar.other {sl : Nat} {v : Value} (F : own_Ar Z h b ty n f) (W : Wr h h' a sl v) (q : b ≠ a) : own_Ar Z h' b ty n f := by obtain ⟨c, A, r⟩ := F; exact ⟨c, A.other W q, r⟩
theorem own_Ar.set {i : Nat} {v : Value} (F : own_Ar Z h a ty n f) (W : Wr h h' a i v) : own_Ar Z h' a ty n (fun j => if j = i then v else f j) := by
  obtain ⟨c, A, S, H⟩ := F
  refine ⟨c.setSlot i v, A.same W, by rw [sz_set]; exact S, fun j hj => ?_⟩
  show (c.slots.setIfInBounds i v)[j]? = some (if j = i then v else f j)
  rw [Array.getElem?_setIfInBounds]
  by_cases q : i = j
  · subst q
    rw [if_pos rfl, if_pos rfl, if_pos (by rw [S]; exact hj)]
  · rw [if_neg q, if_neg (Ne.symm q)]
    exact H j hj
theorem own_Ar.new {k : ClassId} {z : Int32} (A : Arr Z h a (newA k ty z) ty) : own_Ar Z h a ty z.toNatClampNeg (fun _ => defaultValue ty) := ⟨_, A, sz_new _ _ _, fun i hi => by simp [newA, hi]⟩
theorem own_Ar.congr {f' : Nat → Value} (F : own_Ar Z h a ty n f) (q : ∀ i, i < n → f i = f' i) : own_Ar Z h a ty n f' := by
  obtain ⟨c, A, S, H⟩ := F
  exact ⟨c, A, S, fun i hi => by rw [← q i hi]; exact H i hi⟩
theorem own_idx {j : Int32} {i : Nat} (hj : j.toInt = i) : j.toNatClampNeg = i := by
  show j.toInt.toNat = i
  omega
theorem own_in {j : Int32} {i n : Nat} (hj : j.toInt = i) (hi : i < n) : ¬ (j < 0 ∨ n ≤ j.toNatClampNeg) := by
  rw [own_idx hj, Int32.lt_iff_toInt_lt, Int32.toInt_zero]
  omega
theorem own_alen (X : Stand p l e R s m args below meth c T locs cells slots) (hx : p.tables.exec = Jvm.exec) (hZ : Z.Warmed39 s.vm) (eT : T.heap = h) (F : own_Ar Z h a ty n f) {z : Int32} (hz : n.toInt32 = z)
    {g : JFrame} (hg : g.method = m) {rest : List Value} (hs : g.stack = .ref a :: rest) (hd : decode c.code g.pc = .ok (.arraylength, 1)) : ∀ t, Steps p.tables e below (T.setTop { g with pc := g.pc + 1, stack := .int z :: rest }) t → Steps p.tables e below (T.setTop g) t := by
  obtain ⟨cl, A, S, H⟩ := F
  subst hz
  intro t k
  refine X.arraylength hx (cell := cl) (by rw [eT]; exact A.1) (State.isArrayOf_alike hZ.alike A.2.1) hg hs hd t ?_
  rw [S]
  exact k
theorem own_iald (X : Stand p l e R s m args below meth c T locs cells slots) (hx : p.tables.exec = Jvm.exec) (hZ : Z.Warmed39 s.vm) (eT : T.heap = h) (F : own_Ar Z h a .int n f) {j : Int32} {i : Nat} {v : Value} (hj : j.toInt = i) (hi : i < n) (hv : f i = v)
    {g : JFrame} (hg : g.method = m) {rest : List Value} (hs : g.stack = .int j :: .ref a :: rest) (hd : decode c.code g.pc = .ok (.iaload, 1)) : ∀ t, Steps p.tables e below (T.setTop { g with pc := g.pc + 1, stack := v :: rest }) t → Steps p.tables e below (T.setTop g) t := by
  obtain ⟨cl, A, S, H⟩ := F
  subst hv
  exact X.iaload hx (by rw [eT]; exact A.1) (State.isArrayOf_alike hZ.alike A.2.1) A.2.2 (by rw [S]; exact own_in hj hi) (by rw [own_idx hj]; exact H i hi) hg hs hd
theorem own_lald (X : Stand p l e R s m args below meth c T locs cells slots) (hx : p.tables.exec = Jvm.exec) (hZ : Z.Warmed39 s.vm) (eT : T.heap = h) (F : own_Ar Z h a .long n f) {j : Int32} {i : Nat} {v : Value} (hj : j.toInt = i) (hi : i < n) (hv : f i = v)
    {g : JFrame} (hg : g.method = m) {rest : List Value} (hs : g.stack = .int j :: .ref a :: rest) (hd : decode c.code g.pc = .ok (.laload, 1)) : ∀ t, Steps p.tables e below (T.setTop { g with pc := g.pc + 1, stack := v :: rest }) t → Steps p.tables e below (T.setTop g) t := by
  obtain ⟨cl, A, S, H⟩ := F
  subst hv
  exact X.laload hx (by rw [eT]; exact A.1) (State.isArrayOf_alike hZ.alike A.2.1) A.2.2 (by rw [S]; exact own_in hj hi) (by rw [own_idx hj]; exact H i hi) hg hs hd
theorem own_bald (X : Stand p l e R s m args below meth c T locs cells slots) (hx : p.tables.exec = Jvm.exec) (hZ : Z.Warmed39 s.vm) (eT : T.heap = h) (F : own_Ar Z h a .byte n f) {j : Int32} {i : Nat} {v : Value} (hj : j.toInt = i) (hi : i < n) (hv : f i = v)
    {g : JFrame} (hg : g.method = m) {rest : List Value} (hs : g.stack = .int j :: .ref a :: rest) (hd : decode c.code g.pc = .ok (.baload, 1)) : ∀ t, Steps p.tables e below (T.setTop { g with pc := g.pc + 1, stack := v :: rest }) t → Steps p.tables e below (T.setTop g) t := by
  obtain ⟨cl, A, S, H⟩ := F
  subst hv
  exact X.baloadBytes hx (by rw [eT]; exact A.1) (State.isArrayOf_alike hZ.alike A.2.1) A.2.2 (by rw [S]; exact own_in hj hi) (by rw [own_idx hj]; exact H i hi) hg hs hd
theorem own_zald (X : Stand p l e R s m args below meth c T locs cells slots) (hx : p.tables.exec = Jvm.exec) (hZ : Z.Warmed39 s.vm) (eT : T.heap = h) (F : own_Ar Z h a .boolean n f) {j : Int32} {i : Nat} {v : Value} (hj : j.toInt = i) (hi : i < n) (hv : f i = v)
    {g : JFrame} (hg : g.method = m) {rest : List Value} (hs : g.stack = .int j :: .ref a :: rest) (hd : decode c.code g.pc = .ok (.baload, 1)) : ∀ t, Steps p.tables e below (T.setTop { g with pc := g.pc + 1, stack := v :: rest }) t → Steps p.tables e below (T.setTop g) t := by
  obtain ⟨cl, A, S, H⟩ := F
  subst hv
  exact X.baloadBooleans hx (by rw [eT]; exact A.1) (State.isArrayOf_alike hZ.alike A.2.1) A.2.2 (by rw [S]; exact own_in hj hi) (by rw [own_idx hj]; exact H i hi) hg hs hd
theorem own_iast (X : Stand p l e R s m args below meth c T locs cells slots) (hx : p.tables.exec = Jvm.exec) (hZ : Z.Warmed39 s.vm) (eT : T.heap = h) (F : own_Ar Z h a .int n f) {j x : Int32} {i : Nat} (hj : j.toInt = i) (hi : i < n)
    {g : JFrame} (hg : g.method = m) {rest : List Value} (hs : g.stack = .int x :: .int j :: .ref a :: rest) (hd : decode c.code g.pc = .ok (.iastore, 1)) :
    ∃ T' h', Stand p l e R s m args below meth c T' (locs ++ [⟨a, i⟩]) cells slots ∧ T'.heap = h' ∧ Wr h h' a i (.int x) ∧ ∀ t, Steps p.tables e below (T'.setTop { g with pc := g.pc + 1, stack := rest }) t → Steps p.tables e below (T.setTop g) t := by
  obtain ⟨cl, A, S, H⟩ := F
  have r := stI X hx hZ eT A (j := j) (by rw [S]; exact own_in hj hi) hg hs hd
  rw [own_idx hj] at r
  exact r
theorem own_last (X : Stand p l e R s m args below meth c T locs cells slots) (hx : p.tables.exec = Jvm.exec) (hZ : Z.Warmed39 s.vm) (eT : T.heap = h) (F : own_Ar Z h a .long n f) {j : Int32} {x : Int64} {i : Nat} (hj : j.toInt = i) (hi : i < n)
    {g : JFrame} (hg : g.method = m) {rest : List Value} (hs : g.stack = .long x :: .int j :: .ref a :: rest) (hd : decode c.code g.pc = .ok (.lastore, 1)) :
    ∃ T' h', Stand p l e R s m args below meth c T' (locs ++ [⟨a, i⟩]) cells slots ∧ T'.heap = h' ∧ Wr h h' a i (.long x) ∧ ∀ t, Steps p.tables e below (T'.setTop { g with pc := g.pc + 1, stack := rest }) t → Steps p.tables e below (T.setTop g) t := by
  obtain ⟨cl, A, S, H⟩ := F
  have r := stJ X hx hZ eT A (j := j) (by rw [S]; exact own_in hj hi) hg hs hd
  rw [own_idx hj] at r
  exact r
theorem own_bast (X : Stand p l e R s m args below meth c T locs cells slots) (hx : p.tables.exec = Jvm.exec) (hZ : Z.Warmed39 s.vm) (eT : T.heap = h) (F : own_Ar Z h a .byte n f) {j x : Int32} {i : Nat} (hj : j.toInt = i) (hi : i < n)
    {g : JFrame} (hg : g.method = m) {rest : List Value} (hs : g.stack = .int x :: .int j :: .ref a :: rest) (hd : decode c.code g.pc = .ok (.bastore, 1)) :
    ∃ T' h', Stand p l e R s m args below meth c T' (locs ++ [⟨a, i⟩]) cells slots ∧ T'.heap = h' ∧ Wr h h' a i (.int (nar .byte x)) ∧ ∀ t, Steps p.tables e below (T'.setTop { g with pc := g.pc + 1, stack := rest }) t → Steps p.tables e below (T.setTop g) t := by
  obtain ⟨cl, A, S, H⟩ := F
  have r := stB X hx hZ eT A (j := j) (x := x) (by rw [S]; exact own_in hj hi) hg hs hd
  rw [own_idx hj] at r
  exact r
theorem own_zast (X : Stand p l e R s m args below meth c T locs cells slots) (hx : p.tables.exec = Jvm.exec) (hZ : Z.Warmed39 s.vm) (eT : T.heap = h) (F : own_Ar Z h a .boolean n f) {j x : Int32} {i : Nat} (hj : j.toInt = i) (hi : i < n)
    {g : JFrame} (hg : g.method = m) {rest : List Value} (hs : g.stack = .int x :: .int j :: .ref a :: rest) (hd : decode c.code g.pc = .ok (.bastore, 1)) :
    ∃ T' h', Stand p l e R s m args below meth c T' (locs ++ [⟨a, i⟩]) cells slots ∧ T'.heap = h' ∧ Wr h h' a i (.int (nar .boolean x)) ∧ ∀ t, Steps p.tables e below (T'.setTop { g with pc := g.pc + 1, stack := rest }) t → Steps p.tables e below (T.setTop g) t := by
  obtain ⟨cl, A, S, H⟩ := F
  have r := stZ X hx hZ eT A (j := j) (x := x) (by rw [S]; exact own_in hj hi) hg hs hd
  rw [own_idx hj] at r
  exact r
end Arrays
end Jvm.RoadKit
namespace Jvm.RoadKit
open Sem ClassFile Op Lib Jvm.Stand Jvm.Free Jvm.LawKit
section ArraysX
variable {p : Program} {l : Launch} {e : Env} {R : Room} {s : State} {m : MethodId} {args : Array Value} {below : List Frame} {meth : Method} {c : Code} {T : State} {locs : List Loc} {cells slots : Nat} {Z : State} {a0 : Array Value} {h h' : Heap} {a b : Addr} {ty : FieldType} {n : Nat} {f : Nat → Value}
/-- an int array of n places of which nothing else is said -/
def own_AI (Z : State) (h : Heap) (a : Addr) (n : Nat) : Prop := ∃ g : Nat → Int32, own_Ar Z h a .int n (fun i => .int (g i))
theorem own_AI.lt (F : own_AI Z h a n) : a < h.size := by obtain ⟨g, F⟩ := F; exact F.lt
theorem own_AI.ext (F : own_AI Z h a n) (E : Ext h h') : own_AI Z h' a n := by obtain ⟨g, F⟩ := F; exact ⟨g, F.ext E⟩
theorem own_AI.keep {ws : List Addr} (F : own_AI Z h a n) (K : Keep h h' ws) (q : a ∉ ws) : own_AI Z h' a n := by obtain ⟨g, F⟩ := F; exact ⟨g, F.keep K q⟩
theorem own_AI.other {sl : Nat} {v : Value} (F : own_AI Z h b n) (W : Wr h h' a sl v) (q : b ≠ a) : own_AI Z h' b n := by obtain ⟨g, F⟩ := F; exact ⟨g, F.other W q⟩
theorem own_AI.set {i : Nat} {v : Int32} (F : own_AI Z h a n) (W : Wr h h' a i (.int v)) : own_AI Z h' a n := by
  obtain ⟨g, F⟩ := F
  exact ⟨fun j => if j = i then v else g j, (F.set W).congr fun j _ => (apply_ite Value.int _ _ _).symm⟩
theorem own_AI.new {k : ClassId} {z : Int32} (A : Arr Z h a (newA k .int z) .int) : own_AI Z h a z.toNatClampNeg := ⟨fun _ => 0, own_Ar.new A⟩
end ArraysX
end Jvm.RoadKit
namespace Jvm.Pilot.@@N@@
open Jvm Jvm.ClassFile Sem Op Lib Jvm.Free Jvm.Stand Jvm.LawKit Jvm.RoadKit Bundle Jvm.Pilot.@@N@@.Jvm.D
/-! plain facts on ints and longs -/
theorem own_char16 (u : UInt16) : (u.toUInt32.toInt32).toInt = u.toNat := by
  have h := u.toNat_lt
  show BitVec.toInt u.toUInt32.toBitVec = _
  rw [BitVec.toInt_eq_toNat_of_lt (by simp; omega)]
  simp
theorem own_char (y : Int32) : 0 ≤ (y.toUInt32.toUInt16.toUInt32.toInt32).toInt ∧ (y.toUInt32.toUInt16.toUInt32.toInt32).toInt < 65536 := by
  rw [own_char16]
  have h := y.toUInt32.toUInt16.toNat_lt
  omega
theorem own_fin32 {P : Int32 → Prop} (n : Nat) (h : ∀ k : Fin n, P (Int32.ofNat k)) (c : Int32) (h0 : 0 ≤ c.toInt) (h1 : c.toInt < n) : P c := by
  have e : c = Int32.ofNat c.toInt.toNat := by
    apply Int32.toInt_inj.mp
    have hb := c.toInt_lt
    rw [Int32.toInt_ofNat_of_lt (by omega)]
    omega
  rw [e]
  exact h ⟨c.toInt.toNat, by omega⟩
theorem own_lt32 (x y : Int32) : (x < y) ↔ x.toInt < y.toInt := Int32.lt_iff_toInt_lt
theorem own_eq32 (x y : Int32) : (x = y) ↔ x.toInt = y.toInt := Int32.toInt_inj.symm
theorem own_lt64 (x y : Int64) : (x < y) ↔ x.toInt < y.toInt := Int64.lt_iff_toInt_lt
theorem own_eq64 (x y : Int64) : (x = y) ↔ x.toInt = y.toInt := Int64.toInt_inj.symm

def own_fold (f : Nat → Int32) : Nat → Int64
  | 0 => (-3750763034362895579 : Int64)
  | k + 1 => (own_fold f k ^^^ ((f k) &&& (255 : Int32)).toInt64) * (1099511628211 : Int64)
def own_mixa (h : Int64) : Int64 := (h ^^^ (XT.ushrL h (33 : Int32))) * (-49064778989728563 : Int64)
def own_mixb (h : Int64) : Int64 := (h ^^^ (XT.ushrL h (33 : Int32))) * (-4265267296055464877 : Int64)
def own_mixc (h : Int64) : Int64 := h ^^^ (XT.ushrL h (33 : Int32))
def own_hash (f : Nat → Int32) (n : Nat) : Int64 := own_mixc (own_mixb (own_mixa (own_fold f n)))
theorem own_inc {i : Int32} {k : Nat} (h : i.toInt = (k : Nat)) (hk : k < 2147483647) : (i + (1 : Int32)).toInt = ((k + 1 : Nat) : Int) := by
  have k1 : (1 : Int32).toInt = 1 := rfl
  rw [Jvm.Kit.i32_add (by rw [k1]; omega) (by rw [k1]; omega), k1, h]; omega

theorem own_toI {n : Nat} (h : n < 2147483648) : (Int32.ofNat n).toInt = n := Int32.toInt_ofNat_of_lt h
theorem own_last {n : Nat} (h : n < 2147483648) : (Int32.ofNat n - (1 : Int32)).toInt = (n : Int) - 1 := by
  have k1 : (1 : Int32).toInt = 1 := rfl
  have e := own_toI h
  rw [Jvm.Kit.i32_sub (by rw [k1, e]; omega) (by rw [k1, e]; omega), k1, e]
theorem own_dec {i : Int32} {k : Nat} (h : i.toInt = (k : Nat)) : (i + (-1 : Int32)).toInt = (k : Int) - 1 := by
  have k1 : (-1 : Int32).toInt = -1 := rfl
  have b := i.toInt_lt
  rw [Jvm.Kit.i32_add (by rw [k1]; omega) (by rw [k1]; omega), k1, h]; omega
theorem own_succ {i : Int32} {k : Nat} (h : i.toInt = (k : Nat)) : Int32.ofNat (k + 1) = i + (1 : Int32) := by
  have e : i = Int32.ofNat k := by
    have b := i.toInt_lt
    rw [own_eq32, own_toI (by omega), h]
  rw [e]
  exact (Int32.ofNat_succ k).symm
def own_n (x0 : Int32) : Nat := ((x0 &&& (2147483647 : Int32)) % (5 : Int32)).toInt.toNat
theorem own_nb (x0 : Int32) : 0 ≤ ((x0 &&& (2147483647 : Int32)) % (5 : Int32)).toInt ∧ ((x0 &&& (2147483647 : Int32)) % (5 : Int32)).toInt < 5 := by
  have a : (x0 &&& (2147483647 : Int32)).toInt = x0.toInt % 2 ^ 31 := Jvm.Kit.i32_mask x0 _ (k := 31) (by decide) (by decide)
  have b : ((x0 &&& (2147483647 : Int32)) % (5 : Int32)).toInt = (x0 &&& (2147483647 : Int32)).toInt % 5 := Jvm.Kit.i32_rem_nonneg (by omega)
  omega
theorem own_ne (x0 : Int32) : ((x0 &&& (2147483647 : Int32)) % (5 : Int32)).toInt = own_n x0 := by
  have h := own_nb x0
  unfold own_n
  omega
theorem own_n4 (x0 : Int32) : own_n x0 ≤ 4 := by
  have h := own_nb x0
  have e := own_ne x0
  omega
theorem own_nneg (x0 : Int32) : ¬ ((x0 &&& (2147483647 : Int32)) % (5 : Int32)) < 0 := by
  have h := own_nb x0
  rw [own_lt32, Int32.toInt_zero]; omega
theorem own_nin' {x0 a : Int32} {i : Nat} (ha : a.toInt = i) (h : a < ((x0 &&& (2147483647 : Int32)) % (5 : Int32))) : i < own_n x0 := by
  have e := own_ne x0
  rw [own_lt32] at h
  omega
theorem own_nlt {a b n : Int32} (hab : a.toInt ≤ b.toInt) (h : ¬ a < n) : ¬ b < n := by
  rw [own_lt32] at h ⊢; omega
theorem own_ltb {a b n : Int32} (hab : a.toInt < b.toInt) (h : ¬ a < n) : n < b := by
  rw [own_lt32] at h ⊢; omega
theorem own_geb {a b n : Int32} (hab : b.toInt ≤ a.toInt + 1) (h : a < n) : ¬ n < b := by
  rw [own_lt32] at h ⊢; omega

theorem d3_0 : decode method_3_code 0 = .ok (.lload_n 0, 1) := by decide +kernel
theorem d3_1 : decode method_3_code 1 = .ok (.lstore_n 2, 1) := by decide +kernel
theorem d3_2 : decode method_3_code 2 = .ok (.lload_n 2, 1) := by decide +kernel
theorem d3_3 : decode method_3_code 3 = .ok (.lload_n 2, 1) := by decide +kernel
theorem d3_4 : decode method_3_code 4 = .ok (.bipush 33, 2) := by decide +kernel
theorem d3_6 : decode method_3_code 6 = .ok (.lushr, 1) := by decide +kernel
theorem d3_7 : decode method_3_code 7 = .ok (.lxor, 1) := by decide +kernel
theorem d3_8 : decode method_3_code 8 = .ok (.lstore_n 2, 1) := by decide +kernel
theorem d3_9 : decode method_3_code 9 = .ok (.lload_n 2, 1) := by decide +kernel
theorem d3_10 : decode method_3_code 10 = .ok (.ldc2_w 9, 3) := by decide +kernel
theorem d3_13 : decode method_3_code 13 = .ok (.lmul, 1) := by decide +kernel
theorem d3_14 : decode method_3_code 14 = .ok (.lstore_n 2, 1) := by decide +kernel
theorem d3_15 : decode method_3_code 15 = .ok (.lload_n 2, 1) := by decide +kernel
theorem d3_16 : decode method_3_code 16 = .ok (.lload_n 2, 1) := by decide +kernel
theorem d3_17 : decode method_3_code 17 = .ok (.bipush 33, 2) := by decide +kernel
theorem d3_19 : decode method_3_code 19 = .ok (.lushr, 1) := by decide +kernel
theorem d3_20 : decode method_3_code 20 = .ok (.lxor, 1) := by decide +kernel
theorem d3_21 : decode method_3_code 21 = .ok (.lstore_n 2, 1) := by decide +kernel
theorem d3_22 : decode method_3_code 22 = .ok (.lload_n 2, 1) := by decide +kernel
theorem d3_23 : decode method_3_code 23 = .ok (.ldc2_w 11, 3) := by decide +kernel
theorem d3_26 : decode method_3_code 26 = .ok (.lmul, 1) := by decide +kernel
theorem d3_27 : decode method_3_code 27 = .ok (.lstore_n 2, 1) := by decide +kernel
theorem d3_28 : decode method_3_code 28 = .ok (.lload_n 2, 1) := by decide +kernel
theorem d3_29 : decode method_3_code 29 = .ok (.lload_n 2, 1) := by decide +kernel
theorem d3_30 : decode method_3_code 30 = .ok (.bipush 33, 2) := by decide +kernel
theorem d3_32 : decode method_3_code 32 = .ok (.lushr, 1) := by decide +kernel
theorem d3_33 : decode method_3_code 33 = .ok (.lxor, 1) := by decide +kernel
theorem d3_34 : decode method_3_code 34 = .ok (.lstore_n 2, 1) := by decide +kernel
theorem d3_35 : decode method_3_code 35 = .ok (.lload_n 2, 1) := by decide +kernel
theorem d3_36 : decode method_3_code 36 = .ok (.lreturn, 1) := by decide +kernel
theorem pn_3 : plainName "com/example/backtrail/backtrail/core/GraphLayoutHashPinLaw" = true := by first | (simp [plainName, overriddenIn]; done) | decide +kernel
theorem pd_3 : parseMethodDescriptor "(J)J" = some ⟨[.long], (some .long)⟩ := by decide +kernel
theorem ef_3 (m : MethodId) (x0 : Int64) : entryFrame m #[(.long x0)] 4 = mkF m 0 #[.val (.long x0), .second, .unset, .unset] [] := by first | (simp [entryFrame, mkF, argsToLocals, Value.category]; done) | rfl
def own_f3_1 (x0 : Int64) : Int64 := ((x0 ^^^ (XT.ushrL x0 (33 : Int32))) * (-49064778989728563 : Int64))
def own_f3_2 (x0 : Int64) : Int64 := (((own_f3_1 x0) ^^^ (XT.ushrL (own_f3_1 x0) (33 : Int32))) * (-4265267296055464877 : Int64))
def own_f3 (x0 : Int64) : Int64 := ((own_f3_2 x0) ^^^ (XT.ushrL (own_f3_2 x0) (33 : Int32)))
def own_F3 (Z : State) (x0 : Int64)  (h0 : Heap) (v : Option Value) (h : Heap) (L : List Loc) : Prop := v = some (.long (own_f3 x0)) ∧ L = [] ∧ h = h0
set_option maxRecDepth 65536 in
set_option maxHeartbeats 40000000 in
theorem own_m3 (l : Launch) (Z : State) (a0 : Array Value) (hw : ∀ d ∈ tables_1, d.before a0 Z = true) (ws : List Jvm.Cond) (x0 : Int64)  (h0 : Heap)   :
    MetFree l (⟨"com/example/backtrail/backtrail/core/GraphLayoutHashPinLaw", "fmix", "(J)J"⟩ : MethodName) (head1 (Jvm.Cond.code (⟨"com/example/backtrail/backtrail/core/GraphLayoutHashPinLaw", "fmix", "(J)J"⟩ : MethodName) method_3_code 4 (some .long) :: ws) ({ frames := 0, cells := 0, slots := 0, locals := 0 } : Room)) (fun a U => a = #[(.long x0)] ∧ Z.Warmed39 U.vm ∧ U.heap = h0) (fun _ _ _ _ _ => True) (fun _ U o U' => ∃ v L, o = .returned v ∧ own_F3 Z x0 h0 v U'.heap L ∧ FrameEnd U o U' L ({ frames := 0, cells := 0, slots := 0, locals := 0 } : Room).cells ({ frames := 0, cells := 0, slots := 0, locals := 0 } : Room).slots) := by
  refine MetFree.of_bodySF (plainFor_of_name pn_3) hisR ?_
  intro p e s m args below meth c s₁ Bd hml0 hP hK
  obtain ⟨rfl, hZ, hh⟩ := hP
  have hx := Bd.exec
  have hby := Bd.bytes
  have hml : c.maxLocals = 4 := hml0
  have hown : s.vm.findClass "com/example/backtrail/backtrail/core/GraphLayoutHashPinLaw" = some m.cls := findClass_of_methodNamed Bd.named
  have hnm := (name_of_methodNamed Bd.named Bd.method).1
  have X0 : Stand p l e ({ frames := 0, cells := 0, slots := 0, locals := 0 } : Room) s m #[(.long x0)] below meth c s₁ [] 0 0 := Stand.of_body Bd
  have e0 : s₁.heap = h0 := by rw [← hh, Bd.state]; rfl
  have hgo : own_Goes p e below s (own_F3 Z x0 h0) 0 0 (s₁.setTop (mkF m 0 #[.val (.long x0), .second, .unset, .unset] [])) := by
    refine own_Goes.step (fun t k => XT.lloadN X0.here hx rfl (hb hby d3_0) rfl k) ?_
    show own_Goes p e below s (own_F3 Z x0 h0) 0 0 (s₁.setTop (mkF m 1 #[.val (.long x0), .second, .unset, .unset] [(.long x0)]))
    refine own_Goes.step (fun t k => XT.lstoreN X0.here hx rfl (hb hby d3_1) rfl (l' := #[.val (.long x0), .second, .val (.long x0), .second]) rfl k) ?_
    show own_Goes p e below s (own_F3 Z x0 h0) 0 0 (s₁.setTop (mkF m 2 #[.val (.long x0), .second, .val (.long x0), .second] []))
    refine own_Goes.step (fun t k => XT.lloadN X0.here hx rfl (hb hby d3_2) rfl k) ?_
    show own_Goes p e below s (own_F3 Z x0 h0) 0 0 (s₁.setTop (mkF m 3 #[.val (.long x0), .second, .val (.long x0), .second] [(.long x0)]))
    refine own_Goes.step (fun t k => XT.lloadN X0.here hx rfl (hb hby d3_3) rfl k) ?_
    show own_Goes p e below s (own_F3 Z x0 h0) 0 0 (s₁.setTop (mkF m 4 #[.val (.long x0), .second, .val (.long x0), .second] [(.long x0), (.long x0)]))
    refine own_Goes.step (fun t k => XT.bipushV X0.here hx rfl (33 : Int32) (hb hby d3_4) (by decide) k) ?_
    show own_Goes p e below s (own_F3 Z x0 h0) 0 0 (s₁.setTop (mkF m 6 #[.val (.long x0), .second, .val (.long x0), .second] [(.int (33 : Int32)), (.long x0), (.long x0)]))
    refine own_Goes.step (fun t k => XT.lushr X0.here hx rfl (hb hby d3_6) rfl k) ?_
    show own_Goes p e below s (own_F3 Z x0 h0) 0 0 (s₁.setTop (mkF m 7 #[.val (.long x0), .second, .val (.long x0), .second] [(.long (XT.ushrL x0 (33 : Int32))), (.long x0)]))
    refine own_Goes.step (fun t k => XT.lxor X0.here hx rfl (hb hby d3_7) rfl k) ?_
    show own_Goes p e below s (own_F3 Z x0 h0) 0 0 (s₁.setTop (mkF m 8 #[.val (.long x0), .second, .val (.long x0), .second] [(.long (x0 ^^^ (XT.ushrL x0 (33 : Int32))))]))
    refine own_Goes.step (fun t k => XT.lstoreN X0.here hx rfl (hb hby d3_8) rfl (l' := #[.val (.long x0), .second, .val (.long (x0 ^^^ (XT.ushrL x0 (33 : Int32)))), .second]) rfl k) ?_
    show own_Goes p e below s (own_F3 Z x0 h0) 0 0 (s₁.setTop (mkF m 9 #[.val (.long x0), .second, .val (.long (x0 ^^^ (XT.ushrL x0 (33 : Int32)))), .second] []))
    refine own_Goes.step (fun t k => XT.lloadN X0.here hx rfl (hb hby d3_9) rfl k) ?_
    show own_Goes p e below s (own_F3 Z x0 h0) 0 0 (s₁.setTop (mkF m 10 #[.val (.long x0), .second, .val (.long (x0 ^^^ (XT.ushrL x0 (33 : Int32)))), .second] [(.long (x0 ^^^ (XT.ushrL x0 (33 : Int32))))]))
    refine own_Goes.step (fun t k => X0.ldc2J hx hown (mvT hZ (hw _ (List.mem_of_getElem? (i := 17) rfl))) rfl (hb hby d3_10) k) ?_
    show own_Goes p e below s (own_F3 Z x0 h0) 0 0 (s₁.setTop (mkF m 13 #[.val (.long x0), .second, .val (.long (x0 ^^^ (XT.ushrL x0 (33 : Int32)))), .second] [(.long (-49064778989728563 : Int64)), (.long (x0 ^^^ (XT.ushrL x0 (33 : Int32))))]))
    refine own_Goes.step (fun t k => XT.lmul X0.here hx rfl (hb hby d3_13) rfl k) ?_
    show own_Goes p e below s (own_F3 Z x0 h0) 0 0 (s₁.setTop (mkF m 14 #[.val (.long x0), .second, .val (.long (x0 ^^^ (XT.ushrL x0 (33 : Int32)))), .second] [(.long ((x0 ^^^ (XT.ushrL x0 (33 : Int32))) * (-49064778989728563 : Int64)))]))
    refine own_Goes.step (fun t k => XT.lstoreN X0.here hx rfl (hb hby d3_14) rfl (l' := #[.val (.long x0), .second, .val (.long (own_f3_1 x0)), .second]) rfl k) ?_
    show own_Goes p e below s (own_F3 Z x0 h0) 0 0 (s₁.setTop (mkF m 15 #[.val (.long x0), .second, .val (.long (own_f3_1 x0)), .second] []))
    refine own_Goes.step (fun t k => XT.lloadN X0.here hx rfl (hb hby d3_15) rfl k) ?_
    show own_Goes p e below s (own_F3 Z x0 h0) 0 0 (s₁.setTop (mkF m 16 #[.val (.long x0), .second, .val (.long (own_f3_1 x0)), .second] [(.long (own_f3_1 x0))]))
    refine own_Goes.step (fun t k => XT.lloadN X0.here hx rfl (hb hby d3_16) rfl k) ?_
    show own_Goes p e below s (own_F3 Z x0 h0) 0 0 (s₁.setTop (mkF m 17 #[.val (.long x0), .second, .val (.long (own_f3_1 x0)), .second] [(.long (own_f3_1 x0)), (.long (own_f3_1 x0))]))
    refine own_Goes.step (fun t k => XT.bipushV X0.here hx rfl (33 : Int32) (hb hby d3_17) (by decide) k) ?_
    show own_Goes p e below s (own_F3 Z x0 h0) 0 0 (s₁.setTop (mkF m 19 #[.val (.long x0), .second, .val (.long (own_f3_1 x0)), .second] [(.int (33 : Int32)), (.long (own_f3_1 x0)), (.long (own_f3_1 x0))]))
    refine own_Goes.step (fun t k => XT.lushr X0.here hx rfl (hb hby d3_19) rfl k) ?_
    show own_Goes p e below s (own_F3 Z x0 h0) 0 0 (s₁.setTop (mkF m 20 #[.val (.long x0), .second, .val (.long (own_f3_1 x0)), .second] [(.long (XT.ushrL (own_f3_1 x0) (33 : Int32))), (.long (own_f3_1 x0))]))
    refine own_Goes.step (fun t k => XT.lxor X0.here hx rfl (hb hby d3_20) rfl k) ?_
    show own_Goes p e below s (own_F3 Z x0 h0) 0 0 (s₁.setTop (mkF m 21 #[.val (.long x0), .second, .val (.long (own_f3_1 x0)), .second] [(.long ((own_f3_1 x0) ^^^ (XT.ushrL (own_f3_1 x0) (33 : Int32))))]))
    refine own_Goes.step (fun t k => XT.lstoreN X0.here hx rfl (hb hby d3_21) rfl (l' := #[.val (.long x0), .second, .val (.long ((own_f3_1 x0) ^^^ (XT.ushrL (own_f3_1 x0) (33 : Int32)))), .second]) rfl k) ?_
    show own_Goes p e below s (own_F3 Z x0 h0) 0 0 (s₁.setTop (mkF m 22 #[.val (.long x0), .second, .val (.long ((own_f3_1 x0) ^^^ (XT.ushrL (own_f3_1 x0) (33 : Int32)))), .second] []))
    refine own_Goes.step (fun t k => XT.lloadN X0.here hx rfl (hb hby d3_22) rfl k) ?_
    show own_Goes p e below s (own_F3 Z x0 h0) 0 0 (s₁.setTop (mkF m 23 #[.val (.long x0), .second, .val (.long ((own_f3_1 x0) ^^^ (XT.ushrL (own_f3_1 x0) (33 : Int32)))), .second] [(.long ((own_f3_1 x0) ^^^ (XT.ushrL (own_f3_1 x0) (33 : Int32))))]))
    refine own_Goes.step (fun t k => X0.ldc2J hx hown (mvT hZ (hw _ (List.mem_of_getElem? (i := 18) rfl))) rfl (hb hby d3_23) k) ?_
    show own_Goes p e below s (own_F3 Z x0 h0) 0 0 (s₁.setTop (mkF m 26 #[.val (.long x0), .second, .val (.long ((own_f3_1 x0) ^^^ (XT.ushrL (own_f3_1 x0) (33 : Int32)))), .second] [(.long (-4265267296055464877 : Int64)), (.long ((own_f3_1 x0) ^^^ (XT.ushrL (own_f3_1 x0) (33 : Int32))))]))
    refine own_Goes.step (fun t k => XT.lmul X0.here hx rfl (hb hby d3_26) rfl k) ?_
    show own_Goes p e below s (own_F3 Z x0 h0) 0 0 (s₁.setTop (mkF m 27 #[.val (.long x0), .second, .val (.long ((own_f3_1 x0) ^^^ (XT.ushrL (own_f3_1 x0) (33 : Int32)))), .second] [(.long (((own_f3_1 x0) ^^^ (XT.ushrL (own_f3_1 x0) (33 : Int32))) * (-4265267296055464877 : Int64)))]))
    refine own_Goes.step (fun t k => XT.lstoreN X0.here hx rfl (hb hby d3_27) rfl (l' := #[.val (.long x0), .second, .val (.long (own_f3_2 x0)), .second]) rfl k) ?_
    show own_Goes p e below s (own_F3 Z x0 h0) 0 0 (s₁.setTop (mkF m 28 #[.val (.long x0), .second, .val (.long (own_f3_2 x0)), .second] []))
    refine own_Goes.step (fun t k => XT.lloadN X0.here hx rfl (hb hby d3_28) rfl k) ?_
    show own_Goes p e below s (own_F3 Z x0 h0) 0 0 (s₁.setTop (mkF m 29 #[.val (.long x0), .second, .val (.long (own_f3_2 x0)), .second] [(.long (own_f3_2 x0))]))
    refine own_Goes.step (fun t k => XT.lloadN X0.here hx rfl (hb hby d3_29) rfl k) ?_
    show own_Goes p e below s (own_F3 Z x0 h0) 0 0 (s₁.setTop (mkF m 30 #[.val (.long x0), .second, .val (.long (own_f3_2 x0)), .second] [(.long (own_f3_2 x0)), (.long (own_f3_2 x0))]))
    refine own_Goes.step (fun t k => XT.bipushV X0.here hx rfl (33 : Int32) (hb hby d3_30) (by decide) k) ?_
    show own_Goes p e below s (own_F3 Z x0 h0) 0 0 (s₁.setTop (mkF m 32 #[.val (.long x0), .second, .val (.long (own_f3_2 x0)), .second] [(.int (33 : Int32)), (.long (own_f3_2 x0)), (.long (own_f3_2 x0))]))
    refine own_Goes.step (fun t k => XT.lushr X0.here hx rfl (hb hby d3_32) rfl k) ?_
    show own_Goes p e below s (own_F3 Z x0 h0) 0 0 (s₁.setTop (mkF m 33 #[.val (.long x0), .second, .val (.long (own_f3_2 x0)), .second] [(.long (XT.ushrL (own_f3_2 x0) (33 : Int32))), (.long (own_f3_2 x0))]))
    refine own_Goes.step (fun t k => XT.lxor X0.here hx rfl (hb hby d3_33) rfl k) ?_
    show own_Goes p e below s (own_F3 Z x0 h0) 0 0 (s₁.setTop (mkF m 34 #[.val (.long x0), .second, .val (.long (own_f3_2 x0)), .second] [(.long ((own_f3_2 x0) ^^^ (XT.ushrL (own_f3_2 x0) (33 : Int32))))]))
    refine own_Goes.step (fun t k => XT.lstoreN X0.here hx rfl (hb hby d3_34) rfl (l' := #[.val (.long x0), .second, .val (.long ((own_f3_2 x0) ^^^ (XT.ushrL (own_f3_2 x0) (33 : Int32)))), .second]) rfl k) ?_
    show own_Goes p e below s (own_F3 Z x0 h0) 0 0 (s₁.setTop (mkF m 35 #[.val (.long x0), .second, .val (.long ((own_f3_2 x0) ^^^ (XT.ushrL (own_f3_2 x0) (33 : Int32)))), .second] []))
    refine own_Goes.step (fun t k => XT.lloadN X0.here hx rfl (hb hby d3_35) rfl k) ?_
    show own_Goes p e below s (own_F3 Z x0 h0) 0 0 (s₁.setTop (mkF m 36 #[.val (.long x0), .second, .val (.long ((own_f3_2 x0) ^^^ (XT.ushrL (own_f3_2 x0) (33 : Int32)))), .second] [(.long ((own_f3_2 x0) ^^^ (XT.ushrL (own_f3_2 x0) (33 : Int32))))]))
    exact own_endJ X0 hx Bd.notSynchronized Bd.returns (hb hby d3_36) ⟨(congrArg (fun z => some (Value.long z)) (show ((own_f3_2 x0) ^^^ (XT.ushrL (own_f3_2 x0) (33 : Int32))) = own_f3 x0 from by simp only [own_f3])), rfl, e0⟩ (by decide) (by decide)
  obtain ⟨t2, o2, q1, q2, q3, q4⟩ := hgo
  exact ⟨t2, o2, castTop (ef_3 m x0) q1, q2, q3, q4⟩
theorem d2_0 : decode prog_11_method_19_code 0 = .ok (.ldc2_w 95, 3) := by decide +kernel
theorem d2_3 : decode prog_11_method_19_code 3 = .ok (.lstore_n 1, 1) := by decide +kernel
theorem d2_4 : decode prog_11_method_19_code 4 = .ok (.aload_n 0, 1) := by decide +kernel
theorem d2_5 : decode prog_11_method_19_code 5 = .ok (.astore_n 3, 1) := by decide +kernel
theorem d2_6 : decode prog_11_method_19_code 6 = .ok (.aload_n 3, 1) := by decide +kernel
theorem d2_7 : decode prog_11_method_19_code 7 = .ok (.arraylength, 1) := by decide +kernel
theorem d2_8 : decode prog_11_method_19_code 8 = .ok (.istore 4, 2) := by decide +kernel
theorem d2_10 : decode prog_11_method_19_code 10 = .ok (.iconst 0, 1) := by decide +kernel
theorem d2_11 : decode prog_11_method_19_code 11 = .ok (.istore 5, 2) := by decide +kernel
theorem d2_13 : decode prog_11_method_19_code 13 = .ok (.iload 5, 2) := by decide +kernel
theorem d2_15 : decode prog_11_method_19_code 15 = .ok (.iload 4, 2) := by decide +kernel
theorem d2_17 : decode prog_11_method_19_code 17 = .ok (.if_icmp .ge 29, 3) := by decide +kernel
theorem d2_20 : decode prog_11_method_19_code 20 = .ok (.aload_n 3, 1) := by decide +kernel
theorem d2_21 : decode prog_11_method_19_code 21 = .ok (.iload 5, 2) := by decide +kernel
theorem d2_23 : decode prog_11_method_19_code 23 = .ok (.baload, 1) := by decide +kernel
theorem d2_24 : decode prog_11_method_19_code 24 = .ok (.istore 6, 2) := by decide +kernel
theorem d2_26 : decode prog_11_method_19_code 26 = .ok (.lload_n 1, 1) := by decide +kernel
theorem d2_27 : decode prog_11_method_19_code 27 = .ok (.iload 6, 2) := by decide +kernel
theorem d2_29 : decode prog_11_method_19_code 29 = .ok (.sipush 255, 3) := by decide +kernel
theorem d2_32 : decode prog_11_method_19_code 32 = .ok (.iand, 1) := by decide +kernel
theorem d2_33 : decode prog_11_method_19_code 33 = .ok (.i2l, 1) := by decide +kernel
theorem d2_34 : decode prog_11_method_19_code 34 = .ok (.lxor, 1) := by decide +kernel
theorem d2_35 : decode prog_11_method_19_code 35 = .ok (.ldc2_w 97, 3) := by decide +kernel
theorem d2_38 : decode prog_11_method_19_code 38 = .ok (.lmul, 1) := by decide +kernel
theorem d2_39 : decode prog_11_method_19_code 39 = .ok (.lstore_n 1, 1) := by decide +kernel
theorem d2_40 : decode prog_11_method_19_code 40 = .ok (.iinc 5 1, 3) := by decide +kernel
theorem d2_43 : decode prog_11_method_19_code 43 = .ok (.goto (-30), 3) := by decide +kernel
theorem d2_46 : decode prog_11_method_19_code 46 = .ok (.lload_n 1, 1) := by decide +kernel
theorem d2_47 : decode prog_11_method_19_code 47 = .ok (.lload_n 1, 1) := by decide +kernel
theorem d2_48 : decode prog_11_method_19_code 48 = .ok (.bipush 33, 2) := by decide +kernel
theorem d2_50 : decode prog_11_method_19_code 50 = .ok (.lushr, 1) := by decide +kernel
theorem d2_51 : decode prog_11_method_19_code 51 = .ok (.lxor, 1) := by decide +kernel
theorem d2_52 : decode prog_11_method_19_code 52 = .ok (.ldc2_w 99, 3) := by decide +kernel
theorem d2_55 : decode prog_11_method_19_code 55 = .ok (.lmul, 1) := by decide +kernel
theorem d2_56 : decode prog_11_method_19_code 56 = .ok (.lstore_n 1, 1) := by decide +kernel
theorem d2_57 : decode prog_11_method_19_code 57 = .ok (.lload_n 1, 1) := by decide +kernel
theorem d2_58 : decode prog_11_method_19_code 58 = .ok (.lload_n 1, 1) := by decide +kernel
theorem d2_59 : decode prog_11_method_19_code 59 = .ok (.bipush 33, 2) := by decide +kernel
theorem d2_61 : decode prog_11_method_19_code 61 = .ok (.lushr, 1) := by decide +kernel
theorem d2_62 : decode prog_11_method_19_code 62 = .ok (.lxor, 1) := by decide +kernel
theorem d2_63 : decode prog_11_method_19_code 63 = .ok (.ldc2_w 101, 3) := by decide +kernel
theorem d2_66 : decode prog_11_method_19_code 66 = .ok (.lmul, 1) := by decide +kernel
theorem d2_67 : decode prog_11_method_19_code 67 = .ok (.lstore_n 1, 1) := by decide +kernel
theorem d2_68 : decode prog_11_method_19_code 68 = .ok (.lload_n 1, 1) := by decide +kernel
theorem d2_69 : decode prog_11_method_19_code 69 = .ok (.lload_n 1, 1) := by decide +kernel
theorem d2_70 : decode prog_11_method_19_code 70 = .ok (.bipush 33, 2) := by decide +kernel
theorem d2_72 : decode prog_11_method_19_code 72 = .ok (.lushr, 1) := by decide +kernel
theorem d2_73 : decode prog_11_method_19_code 73 = .ok (.lxor, 1) := by decide +kernel
theorem d2_74 : decode prog_11_method_19_code 74 = .ok (.lreturn, 1) := by decide +kernel
theorem pn_2 : plainName "com/example/backtrail/backtrail/core/GraphLayout" = true := by first | (simp [plainName, overriddenIn]; done) | decide +kernel
theorem pd_2 : parseMethodDescriptor "([B)J" = some ⟨[(.array .byte)], (some .long)⟩ := by decide +kernel
theorem ef_2 (m : MethodId) (x0 : Addr) : entryFrame m #[(.ref x0)] 7 = mkF m 0 #[.val (.ref x0), .unset, .unset, .unset, .unset, .unset, .unset] [] := by first | (simp [entryFrame, mkF, argsToLocals, Value.category]; done) | rfl
def own_F2 (Z : State) (x0 : Addr) (n : Nat) (f : Nat → Int32) (n0 : Nat) (h0 : Heap) (v : Option Value) (h : Heap) (L : List Loc) : Prop := v = some (.long (own_hash f n)) ∧ L = [] ∧ h = h0
set_option maxRecDepth 65536 in
set_option maxHeartbeats 40000000 in
theorem own_m2 (l : Launch) (Z : State) (a0 : Array Value) (hw : ∀ d ∈ tables_1, d.before a0 Z = true) (ws : List Jvm.Cond) (x0 : Addr) (n : Nat) (f : Nat → Int32) (n0 : Nat) (h0 : Heap)  (A0 : own_Ar Z h0 x0 .byte n (fun uu => .int (f uu))) (hn : n < 2147483648) :
    MetFree l (⟨"com/example/backtrail/backtrail/core/GraphLayout", "hash", "([B)J"⟩ : MethodName) (head1 (Jvm.Cond.code (⟨"com/example/backtrail/backtrail/core/GraphLayout", "hash", "([B)J"⟩ : MethodName) prog_11_method_19_code 7 (some .long) :: ws) ({ frames := 0, cells := 0, slots := 0, locals := 0 } : Room)) (fun a U => a = #[(.ref x0)] ∧ Z.Warmed39 U.vm ∧ U.heap = h0) (fun _ _ _ _ _ => True) (fun _ U o U' => ∃ v L, o = .returned v ∧ own_F2 Z x0 n f n0 h0 v U'.heap L ∧ FrameEnd U o U' L ({ frames := 0, cells := 0, slots := 0, locals := 0 } : Room).cells ({ frames := 0, cells := 0, slots := 0, locals := 0 } : Room).slots) := by
  refine MetFree.of_bodySF (plainFor_of_name pn_2) hisR ?_
  intro p e s m args below meth c s₁ Bd hml0 hP hK
  obtain ⟨rfl, hZ, hh⟩ := hP
  have hx := Bd.exec
  have hby := Bd.bytes
  have hml : c.maxLocals = 7 := hml0
  have hown : s.vm.findClass "com/example/backtrail/backtrail/core/GraphLayout" = some m.cls := findClass_of_methodNamed Bd.named
  have hnm := (name_of_methodNamed Bd.named Bd.method).1
  have X0 : Stand p l e ({ frames := 0, cells := 0, slots := 0, locals := 0 } : Room) s m #[(.ref x0)] below meth c s₁ [] 0 0 := Stand.of_body Bd
  have e0 : s₁.heap = h0 := by rw [← hh, Bd.state]; rfl
  have N0 := Fr.nil n0
  have K0 : Keep h0 h0 [] := Keep.refl h0 []
  have hgo : own_Goes p e below s (own_F2 Z x0 n f n0 h0) 0 0 (s₁.setTop (mkF m 0 #[.val (.ref x0), .unset, .unset, .unset, .unset, .unset, .unset] [])) := by
    refine own_Goes.step (fun t k => X0.ldc2J hx hown (mvT hZ (hw _ (List.mem_of_getElem? (i := 11) rfl))) rfl (hb hby d2_0) k) ?_
    show own_Goes p e below s (own_F2 Z x0 n f n0 h0) 0 0 (s₁.setTop (mkF m 3 #[.val (.ref x0), .unset, .unset, .unset, .unset, .unset, .unset] [(.long (-3750763034362895579 : Int64))]))
    refine own_Goes.step (fun t k => XT.lstoreN X0.here hx rfl (hb hby d2_3) rfl (l' := #[.val (.ref x0), .val (.long (-3750763034362895579 : Int64)), .second, .unset, .unset, .unset, .unset]) rfl k) ?_
    show own_Goes p e below s (own_F2 Z x0 n f n0 h0) 0 0 (s₁.setTop (mkF m 4 #[.val (.ref x0), .val (.long (-3750763034362895579 : Int64)), .second, .unset, .unset, .unset, .unset] []))
    refine own_Goes.step (fun t k => XS.aloadN X0.here hx rfl (hb hby d2_4) rfl rfl k) ?_
    show own_Goes p e below s (own_F2 Z x0 n f n0 h0) 0 0 (s₁.setTop (mkF m 5 #[.val (.ref x0), .val (.long (-3750763034362895579 : Int64)), .second, .unset, .unset, .unset, .unset] [(.ref x0)]))
    refine own_Goes.step (fun t k => XS.astoreN X0.here hx rfl (hb hby d2_5) rfl rfl (l' := #[.val (.ref x0), .val (.long (-3750763034362895579 : Int64)), .second, .val (.ref x0), .unset, .unset, .unset]) rfl k) ?_
    show own_Goes p e below s (own_F2 Z x0 n f n0 h0) 0 0 (s₁.setTop (mkF m 6 #[.val (.ref x0), .val (.long (-3750763034362895579 : Int64)), .second, .val (.ref x0), .unset, .unset, .unset] []))
    refine own_Goes.step (fun t k => XS.aloadN X0.here hx rfl (hb hby d2_6) rfl rfl k) ?_
    show own_Goes p e below s (own_F2 Z x0 n f n0 h0) 0 0 (s₁.setTop (mkF m 7 #[.val (.ref x0), .val (.long (-3750763034362895579 : Int64)), .second, .val (.ref x0), .unset, .unset, .unset] [(.ref x0)]))
    refine own_Goes.step (own_alen X0 hx hZ e0 A0 (z := (Int32.ofNat n)) rfl (g := (mkF m 7 #[.val (.ref x0), .val (.long (-3750763034362895579 : Int64)), .second, .val (.ref x0), .unset, .unset, .unset] [(.ref x0)])) rfl rfl (hb hby d2_7)) ?_
    show own_Goes p e below s (own_F2 Z x0 n f n0 h0) 0 0 (s₁.setTop (mkF m 8 #[.val (.ref x0), .val (.long (-3750763034362895579 : Int64)), .second, .val (.ref x0), .unset, .unset, .unset] [(.int (Int32.ofNat n))]))
    refine own_Goes.step (fun t k => XS.istore X0.here hx rfl (hb hby d2_8) rfl (l' := #[.val (.ref x0), .val (.long (-3750763034362895579 : Int64)), .second, .val (.ref x0), .val (.int (Int32.ofNat n)), .unset, .unset]) rfl k) ?_
    show own_Goes p e below s (own_F2 Z x0 n f n0 h0) 0 0 (s₁.setTop (mkF m 10 #[.val (.ref x0), .val (.long (-3750763034362895579 : Int64)), .second, .val (.ref x0), .val (.int (Int32.ofNat n)), .unset, .unset] []))
    refine own_Goes.step (fun t k => XT.iconstV X0.here hx rfl (0 : Int32) (hb hby d2_10) (by decide) k) ?_
    show own_Goes p e below s (own_F2 Z x0 n f n0 h0) 0 0 (s₁.setTop (mkF m 11 #[.val (.ref x0), .val (.long (-3750763034362895579 : Int64)), .second, .val (.ref x0), .val (.int (Int32.ofNat n)), .unset, .unset] [(.int (0 : Int32))]))
    refine own_Goes.step (fun t k => XS.istore X0.here hx rfl (hb hby d2_11) rfl (l' := #[.val (.ref x0), .val (.long (-3750763034362895579 : Int64)), .second, .val (.ref x0), .val (.int (Int32.ofNat n)), .val (.int (0 : Int32)), .unset]) rfl k) ?_
    show own_Goes p e below s (own_F2 Z x0 n f n0 h0) 0 0 (s₁.setTop (mkF m 13 #[.val (.ref x0), .val (.long (-3750763034362895579 : Int64)), .second, .val (.ref x0), .val (.int (Int32.ofNat n)), .val (.int (0 : Int32)), .unset] []))
    have loop : ∀ (k : Nat) (i : Nat) (iv : Int32) (sl : Slot), iv.toInt = (i : Nat) → i + k = n → (sl = .unset ∨ ∃ w, sl = .val w ∧ w.category = 1) → own_Goes p e below s (own_F2 Z x0 n f n0 h0) 0 0 (s₁.setTop (mkF m 13 #[.val (.ref x0), .val (.long (own_fold f i)), .second, .val (.ref x0), .val (.int (Int32.ofNat n)), .val (.int iv), sl] [])) := by
      intro k
      induction k with
      | zero =>
        intro i iv sl hi hk hs
        have hge : ¬ iv < Int32.ofNat n := by rw [own_lt32, own_toI hn]; omega
        have hin : i = n := by omega
        refine own_Goes.step (fun t k => XS.iload X0.here hx rfl (hb hby d2_13) rfl k) ?_
        show own_Goes p e below s (own_F2 Z x0 n f n0 h0) 0 0 (s₁.setTop (mkF m 15 #[.val (.ref x0), .val (.long (own_fold f i)), .second, .val (.ref x0), .val (.int (Int32.ofNat n)), .val (.int iv), sl] [(.int iv)]))
        refine own_Goes.step (fun t k => XS.iload X0.here hx rfl (hb hby d2_15) rfl k) ?_
        show own_Goes p e below s (own_F2 Z x0 n f n0 h0) 0 0 (s₁.setTop (mkF m 17 #[.val (.ref x0), .val (.long (own_fold f i)), .second, .val (.ref x0), .val (.int (Int32.ofNat n)), .val (.int iv), sl] [(.int (Int32.ofNat n)), (.int iv)]))
        refine own_Goes.step (fun t k => XS.icmpYes X0.here hx rfl (pc0 := 17) (pc' := 46) rfl (hb hby d2_17) rfl (XT.ii_ge_t (hge)) (by decide) (by decide) k) ?_
        show own_Goes p e below s (own_F2 Z x0 n f n0 h0) 0 0 (s₁.setTop (mkF m 46 #[.val (.ref x0), .val (.long (own_fold f i)), .second, .val (.ref x0), .val (.int (Int32.ofNat n)), .val (.int iv), sl] []))
        refine own_Goes.step (fun t k => XT.lloadN X0.here hx rfl (hb hby d2_46) rfl k) ?_
        show own_Goes p e below s (own_F2 Z x0 n f n0 h0) 0 0 (s₁.setTop (mkF m 47 #[.val (.ref x0), .val (.long (own_fold f i)), .second, .val (.ref x0), .val (.int (Int32.ofNat n)), .val (.int iv), sl] [(.long (own_fold f i))]))
        refine own_Goes.step (fun t k => XT.lloadN X0.here hx rfl (hb hby d2_47) rfl k) ?_
        show own_Goes p e below s (own_F2 Z x0 n f n0 h0) 0 0 (s₁.setTop (mkF m 48 #[.val (.ref x0), .val (.long (own_fold f i)), .second, .val (.ref x0), .val (.int (Int32.ofNat n)), .val (.int iv), sl] [(.long (own_fold f i)), (.long (own_fold f i))]))
        refine own_Goes.step (fun t k => XT.bipushV X0.here hx rfl (33 : Int32) (hb hby d2_48) (by decide) k) ?_
        show own_Goes p e below s (own_F2 Z x0 n f n0 h0) 0 0 (s₁.setTop (mkF m 50 #[.val (.ref x0), .val (.long (own_fold f i)), .second, .val (.ref x0), .val (.int (Int32.ofNat n)), .val (.int iv), sl] [(.int (33 : Int32)), (.long (own_fold f i)), (.long (own_fold f i))]))
        refine own_Goes.step (fun t k => XT.lushr X0.here hx rfl (hb hby d2_50) rfl k) ?_
        show own_Goes p e below s (own_F2 Z x0 n f n0 h0) 0 0 (s₁.setTop (mkF m 51 #[.val (.ref x0), .val (.long (own_fold f i)), .second, .val (.ref x0), .val (.int (Int32.ofNat n)), .val (.int iv), sl] [(.long (XT.ushrL (own_fold f i) (33 : Int32))), (.long (own_fold f i))]))
        refine own_Goes.step (fun t k => XT.lxor X0.here hx rfl (hb hby d2_51) rfl k) ?_
        show own_Goes p e below s (own_F2 Z x0 n f n0 h0) 0 0 (s₁.setTop (mkF m 52 #[.val (.ref x0), .val (.long (own_fold f i)), .second, .val (.ref x0), .val (.int (Int32.ofNat n)), .val (.int iv), sl] [(.long ((own_fold f i) ^^^ (XT.ushrL (own_fold f i) (33 : Int32))))]))
        refine own_Goes.step (fun t k => X0.ldc2J hx hown (mvT hZ (hw _ (List.mem_of_getElem? (i := 12) rfl))) rfl (hb hby d2_52) k) ?_
        show own_Goes p e below s (own_F2 Z x0 n f n0 h0) 0 0 (s₁.setTop (mkF m 55 #[.val (.ref x0), .val (.long (own_fold f i)), .second, .val (.ref x0), .val (.int (Int32.ofNat n)), .val (.int iv), sl] [(.long (-49064778989728563 : Int64)), (.long ((own_fold f i) ^^^ (XT.ushrL (own_fold f i) (33 : Int32))))]))
        refine own_Goes.step (fun t k => XT.lmul X0.here hx rfl (hb hby d2_55) rfl k) ?_
        show own_Goes p e below s (own_F2 Z x0 n f n0 h0) 0 0 (s₁.setTop (mkF m 56 #[.val (.ref x0), .val (.long (own_fold f i)), .second, .val (.ref x0), .val (.int (Int32.ofNat n)), .val (.int iv), sl] [(.long (((own_fold f i) ^^^ (XT.ushrL (own_fold f i) (33 : Int32))) * (-49064778989728563 : Int64)))]))
        refine own_Goes.step (fun t k => XT.lstoreN X0.here hx rfl (hb hby d2_56) rfl (l' := #[.val (.ref x0), .val (.long (((own_fold f i) ^^^ (XT.ushrL (own_fold f i) (33 : Int32))) * (-49064778989728563 : Int64))), .second, .val (.ref x0), .val (.int (Int32.ofNat n)), .val (.int iv), sl]) rfl k) ?_
        show own_Goes p e below s (own_F2 Z x0 n f n0 h0) 0 0 (s₁.setTop (mkF m 57 #[.val (.ref x0), .val (.long (((own_fold f i) ^^^ (XT.ushrL (own_fold f i) (33 : Int32))) * (-49064778989728563 : Int64))), .second, .val (.ref x0), .val (.int (Int32.ofNat n)), .val (.int iv), sl] []))
        refine own_Goes.step (fun t k => XT.lloadN X0.here hx rfl (hb hby d2_57) rfl k) ?_
        show own_Goes p e below s (own_F2 Z x0 n f n0 h0) 0 0 (s₁.setTop (mkF m 58 #[.val (.ref x0), .val (.long (((own_fold f i) ^^^ (XT.ushrL (own_fold f i) (33 : Int32))) * (-49064778989728563 : Int64))), .second, .val (.ref x0), .val (.int (Int32.ofNat n)), .val (.int iv), sl] [(.long (((own_fold f i) ^^^ (XT.ushrL (own_fold f i) (33 : Int32))) * (-49064778989728563 : Int64)))]))
        refine own_Goes.step (fun t k => XT.lloadN X0.here hx rfl (hb hby d2_58) rfl k) ?_
        show own_Goes p e below s (own_F2 Z x0 n f n0 h0) 0 0 (s₁.setTop (mkF m 59 #[.val (.ref x0), .val (.long (((own_fold f i) ^^^ (XT.ushrL (own_fold f i) (33 : Int32))) * (-49064778989728563 : Int64))), .second, .val (.ref x0), .val (.int (Int32.ofNat n)), .val (.int iv), sl] [(.long (((own_fold f i) ^^^ (XT.ushrL (own_fold f i) (33 : Int32))) * (-49064778989728563 : Int64))), (.long (((own_fold f i) ^^^ (XT.ushrL (own_fold f i) (33 : Int32))) * (-49064778989728563 : Int64)))]))
        refine own_Goes.step (fun t k => XT.bipushV X0.here hx rfl (33 : Int32) (hb hby d2_59) (by decide) k) ?_
        show own_Goes p e below s (own_F2 Z x0 n f n0 h0) 0 0 (s₁.setTop (mkF m 61 #[.val (.ref x0), .val (.long (((own_fold f i) ^^^ (XT.ushrL (own_fold f i) (33 : Int32))) * (-49064778989728563 : Int64))), .second, .val (.ref x0), .val (.int (Int32.ofNat n)), .val (.int iv), sl] [(.int (33 : Int32)), (.long (((own_fold f i) ^^^ (XT.ushrL (own_fold f i) (33 : Int32))) * (-49064778989728563 : Int64))), (.long (((own_fold f i) ^^^ (XT.ushrL (own_fold f i) (33 : Int32))) * (-49064778989728563 : Int64)))]))
        refine own_Goes.step (fun t k => XT.lushr X0.here hx rfl (hb hby d2_61) rfl k) ?_
        show own_Goes p e below s (own_F2 Z x0 n f n0 h0) 0 0 (s₁.setTop (mkF m 62 #[.val (.ref x0), .val (.long (((own_fold f i) ^^^ (XT.ushrL (own_fold f i) (33 : Int32))) * (-49064778989728563 : Int64))), .second, .val (.ref x0), .val (.int (Int32.ofNat n)), .val (.int iv), sl] [(.long (XT.ushrL (((own_fold f i) ^^^ (XT.ushrL (own_fold f i) (33 : Int32))) * (-49064778989728563 : Int64)) (33 : Int32))), (.long (((own_fold f i) ^^^ (XT.ushrL (own_fold f i) (33 : Int32))) * (-49064778989728563 : Int64)))]))
        refine own_Goes.step (fun t k => XT.lxor X0.here hx rfl (hb hby d2_62) rfl k) ?_
        show own_Goes p e below s (own_F2 Z x0 n f n0 h0) 0 0 (s₁.setTop (mkF m 63 #[.val (.ref x0), .val (.long (((own_fold f i) ^^^ (XT.ushrL (own_fold f i) (33 : Int32))) * (-49064778989728563 : Int64))), .second, .val (.ref x0), .val (.int (Int32.ofNat n)), .val (.int iv), sl] [(.long ((((own_fold f i) ^^^ (XT.ushrL (own_fold f i) (33 : Int32))) * (-49064778989728563 : Int64)) ^^^ (XT.ushrL (((own_fold f i) ^^^ (XT.ushrL (own_fold f i) (33 : Int32))) * (-49064778989728563 : Int64)) (33 : Int32))))]))
        refine own_Goes.step (fun t k => X0.ldc2J hx hown (mvT hZ (hw _ (List.mem_of_getElem? (i := 13) rfl))) rfl (hb hby d2_63) k) ?_
        show own_Goes p e below s (own_F2 Z x0 n f n0 h0) 0 0 (s₁.setTop (mkF m 66 #[.val (.ref x0), .val (.long (((own_fold f i) ^^^ (XT.ushrL (own_fold f i) (33 : Int32))) * (-49064778989728563 : Int64))), .second, .val (.ref x0), .val (.int (Int32.ofNat n)), .val (.int iv), sl] [(.long (-4265267296055464877 : Int64)), (.long ((((own_fold f i) ^^^ (XT.ushrL (own_fold f i) (33 : Int32))) * (-49064778989728563 : Int64)) ^^^ (XT.ushrL (((own_fold f i) ^^^ (XT.ushrL (own_fold f i) (33 : Int32))) * (-49064778989728563 : Int64)) (33 : Int32))))]))
        refine own_Goes.step (fun t k => XT.lmul X0.here hx rfl (hb hby d2_66) rfl k) ?_
        show own_Goes p e below s (own_F2 Z x0 n f n0 h0) 0 0 (s₁.setTop (mkF m 67 #[.val (.ref x0), .val (.long (((own_fold f i) ^^^ (XT.ushrL (own_fold f i) (33 : Int32))) * (-49064778989728563 : Int64))), .second, .val (.ref x0), .val (.int (Int32.ofNat n)), .val (.int iv), sl] [(.long (((((own_fold f i) ^^^ (XT.ushrL (own_fold f i) (33 : Int32))) * (-49064778989728563 : Int64)) ^^^ (XT.ushrL (((own_fold f i) ^^^ (XT.ushrL (own_fold f i) (33 : Int32))) * (-49064778989728563 : Int64)) (33 : Int32))) * (-4265267296055464877 : Int64)))]))
        refine own_Goes.step (fun t k => XT.lstoreN X0.here hx rfl (hb hby d2_67) rfl (l' := #[.val (.ref x0), .val (.long (((((own_fold f i) ^^^ (XT.ushrL (own_fold f i) (33 : Int32))) * (-49064778989728563 : Int64)) ^^^ (XT.ushrL (((own_fold f i) ^^^ (XT.ushrL (own_fold f i) (33 : Int32))) * (-49064778989728563 : Int64)) (33 : Int32))) * (-4265267296055464877 : Int64))), .second, .val (.ref x0), .val (.int (Int32.ofNat n)), .val (.int iv), sl]) rfl k) ?_
        show own_Goes p e below s (own_F2 Z x0 n f n0 h0) 0 0 (s₁.setTop (mkF m 68 #[.val (.ref x0), .val (.long (((((own_fold f i) ^^^ (XT.ushrL (own_fold f i) (33 : Int32))) * (-49064778989728563 : Int64)) ^^^ (XT.ushrL (((own_fold f i) ^^^ (XT.ushrL (own_fold f i) (33 : Int32))) * (-49064778989728563 : Int64)) (33 : Int32))) * (-4265267296055464877 : Int64))), .second, .val (.ref x0), .val (.int (Int32.ofNat n)), .val (.int iv), sl] []))
        refine own_Goes.step (fun t k => XT.lloadN X0.here hx rfl (hb hby d2_68) rfl k) ?_
        show own_Goes p e below s (own_F2 Z x0 n f n0 h0) 0 0 (s₁.setTop (mkF m 69 #[.val (.ref x0), .val (.long (((((own_fold f i) ^^^ (XT.ushrL (own_fold f i) (33 : Int32))) * (-49064778989728563 : Int64)) ^^^ (XT.ushrL (((own_fold f i) ^^^ (XT.ushrL (own_fold f i) (33 : Int32))) * (-49064778989728563 : Int64)) (33 : Int32))) * (-4265267296055464877 : Int64))), .second, .val (.ref x0), .val (.int (Int32.ofNat n)), .val (.int iv), sl] [(.long (((((own_fold f i) ^^^ (XT.ushrL (own_fold f i) (33 : Int32))) * (-49064778989728563 : Int64)) ^^^ (XT.ushrL (((own_fold f i) ^^^ (XT.ushrL (own_fold f i) (33 : Int32))) * (-49064778989728563 : Int64)) (33 : Int32))) * (-4265267296055464877 : Int64)))]))
        refine own_Goes.step (fun t k => XT.lloadN X0.here hx rfl (hb hby d2_69) rfl k) ?_
        show own_Goes p e below s (own_F2 Z x0 n f n0 h0) 0 0 (s₁.setTop (mkF m 70 #[.val (.ref x0), .val (.long (((((own_fold f i) ^^^ (XT.ushrL (own_fold f i) (33 : Int32))) * (-49064778989728563 : Int64)) ^^^ (XT.ushrL (((own_fold f i) ^^^ (XT.ushrL (own_fold f i) (33 : Int32))) * (-49064778989728563 : Int64)) (33 : Int32))) * (-4265267296055464877 : Int64))), .second, .val (.ref x0), .val (.int (Int32.ofNat n)), .val (.int iv), sl] [(.long (((((own_fold f i) ^^^ (XT.ushrL (own_fold f i) (33 : Int32))) * (-49064778989728563 : Int64)) ^^^ (XT.ushrL (((own_fold f i) ^^^ (XT.ushrL (own_fold f i) (33 : Int32))) * (-49064778989728563 : Int64)) (33 : Int32))) * (-4265267296055464877 : Int64))), (.long (((((own_fold f i) ^^^ (XT.ushrL (own_fold f i) (33 : Int32))) * (-49064778989728563 : Int64)) ^^^ (XT.ushrL (((own_fold f i) ^^^ (XT.ushrL (own_fold f i) (33 : Int32))) * (-49064778989728563 : Int64)) (33 : Int32))) * (-4265267296055464877 : Int64)))]))
        refine own_Goes.step (fun t k => XT.bipushV X0.here hx rfl (33 : Int32) (hb hby d2_70) (by decide) k) ?_
        show own_Goes p e below s (own_F2 Z x0 n f n0 h0) 0 0 (s₁.setTop (mkF m 72 #[.val (.ref x0), .val (.long (((((own_fold f i) ^^^ (XT.ushrL (own_fold f i) (33 : Int32))) * (-49064778989728563 : Int64)) ^^^ (XT.ushrL (((own_fold f i) ^^^ (XT.ushrL (own_fold f i) (33 : Int32))) * (-49064778989728563 : Int64)) (33 : Int32))) * (-4265267296055464877 : Int64))), .second, .val (.ref x0), .val (.int (Int32.ofNat n)), .val (.int iv), sl] [(.int (33 : Int32)), (.long (((((own_fold f i) ^^^ (XT.ushrL (own_fold f i) (33 : Int32))) * (-49064778989728563 : Int64)) ^^^ (XT.ushrL (((own_fold f i) ^^^ (XT.ushrL (own_fold f i) (33 : Int32))) * (-49064778989728563 : Int64)) (33 : Int32))) * (-4265267296055464877 : Int64))), (.long (((((own_fold f i) ^^^ (XT.ushrL (own_fold f i) (33 : Int32))) * (-49064778989728563 : Int64)) ^^^ (XT.ushrL (((own_fold f i) ^^^ (XT.ushrL (own_fold f i) (33 : Int32))) * (-49064778989728563 : Int64)) (33 : Int32))) * (-4265267296055464877 : Int64)))]))
        refine own_Goes.step (fun t k => XT.lushr X0.here hx rfl (hb hby d2_72) rfl k) ?_
        show own_Goes p e below s (own_F2 Z x0 n f n0 h0) 0 0 (s₁.setTop (mkF m 73 #[.val (.ref x0), .val (.long (((((own_fold f i) ^^^ (XT.ushrL (own_fold f i) (33 : Int32))) * (-49064778989728563 : Int64)) ^^^ (XT.ushrL (((own_fold f i) ^^^ (XT.ushrL (own_fold f i) (33 : Int32))) * (-49064778989728563 : Int64)) (33 : Int32))) * (-4265267296055464877 : Int64))), .second, .val (.ref x0), .val (.int (Int32.ofNat n)), .val (.int iv), sl] [(.long (XT.ushrL (((((own_fold f i) ^^^ (XT.ushrL (own_fold f i) (33 : Int32))) * (-49064778989728563 : Int64)) ^^^ (XT.ushrL (((own_fold f i) ^^^ (XT.ushrL (own_fold f i) (33 : Int32))) * (-49064778989728563 : Int64)) (33 : Int32))) * (-4265267296055464877 : Int64)) (33 : Int32))), (.long (((((own_fold f i) ^^^ (XT.ushrL (own_fold f i) (33 : Int32))) * (-49064778989728563 : Int64)) ^^^ (XT.ushrL (((own_fold f i) ^^^ (XT.ushrL (own_fold f i) (33 : Int32))) * (-49064778989728563 : Int64)) (33 : Int32))) * (-4265267296055464877 : Int64)))]))
        refine own_Goes.step (fun t k => XT.lxor X0.here hx rfl (hb hby d2_73) rfl k) ?_
        show own_Goes p e below s (own_F2 Z x0 n f n0 h0) 0 0 (s₁.setTop (mkF m 74 #[.val (.ref x0), .val (.long (((((own_fold f i) ^^^ (XT.ushrL (own_fold f i) (33 : Int32))) * (-49064778989728563 : Int64)) ^^^ (XT.ushrL (((own_fold f i) ^^^ (XT.ushrL (own_fold f i) (33 : Int32))) * (-49064778989728563 : Int64)) (33 : Int32))) * (-4265267296055464877 : Int64))), .second, .val (.ref x0), .val (.int (Int32.ofNat n)), .val (.int iv), sl] [(.long ((((((own_fold f i) ^^^ (XT.ushrL (own_fold f i) (33 : Int32))) * (-49064778989728563 : Int64)) ^^^ (XT.ushrL (((own_fold f i) ^^^ (XT.ushrL (own_fold f i) (33 : Int32))) * (-49064778989728563 : Int64)) (33 : Int32))) * (-4265267296055464877 : Int64)) ^^^ (XT.ushrL (((((own_fold f i) ^^^ (XT.ushrL (own_fold f i) (33 : Int32))) * (-49064778989728563 : Int64)) ^^^ (XT.ushrL (((own_fold f i) ^^^ (XT.ushrL (own_fold f i) (33 : Int32))) * (-49064778989728563 : Int64)) (33 : Int32))) * (-4265267296055464877 : Int64)) (33 : Int32))))]))
        refine own_endJ X0 hx Bd.notSynchronized Bd.returns (hb hby d2_74) ?_ (by decide) (by decide)
        show own_F2 Z x0 n f n0 h0 _ s₁.heap _
        rw [e0]
        subst hin
        exact ⟨rfl, rfl, rfl⟩
      | succ k ih =>
        intro i iv sl hi hk hs
        have hlt : iv < Int32.ofNat n := by rw [own_lt32, own_toI hn]; omega
        have hkn : i < n := by omega
        refine own_Goes.step (fun t k => XS.iload X0.here hx rfl (hb hby d2_13) rfl k) ?_
        show own_Goes p e below s (own_F2 Z x0 n f n0 h0) 0 0 (s₁.setTop (mkF m 15 #[.val (.ref x0), .val (.long (own_fold f i)), .second, .val (.ref x0), .val (.int (Int32.ofNat n)), .val (.int iv), sl] [(.int iv)]))
        refine own_Goes.step (fun t k => XS.iload X0.here hx rfl (hb hby d2_15) rfl k) ?_
        show own_Goes p e below s (own_F2 Z x0 n f n0 h0) 0 0 (s₁.setTop (mkF m 17 #[.val (.ref x0), .val (.long (own_fold f i)), .second, .val (.ref x0), .val (.int (Int32.ofNat n)), .val (.int iv), sl] [(.int (Int32.ofNat n)), (.int iv)]))
        refine own_Goes.step (fun t k => XS.icmpNo X0.here hx rfl (hb hby d2_17) rfl (XT.ii_ge_f (hlt)) k) ?_
        show own_Goes p e below s (own_F2 Z x0 n f n0 h0) 0 0 (s₁.setTop (mkF m 20 #[.val (.ref x0), .val (.long (own_fold f i)), .second, .val (.ref x0), .val (.int (Int32.ofNat n)), .val (.int iv), sl] []))
        refine own_Goes.step (fun t k => XS.aloadN X0.here hx rfl (hb hby d2_20) rfl rfl k) ?_
        show own_Goes p e below s (own_F2 Z x0 n f n0 h0) 0 0 (s₁.setTop (mkF m 21 #[.val (.ref x0), .val (.long (own_fold f i)), .second, .val (.ref x0), .val (.int (Int32.ofNat n)), .val (.int iv), sl] [(.ref x0)]))
        refine own_Goes.step (fun t k => XS.iload X0.here hx rfl (hb hby d2_21) rfl k) ?_
        show own_Goes p e below s (own_F2 Z x0 n f n0 h0) 0 0 (s₁.setTop (mkF m 23 #[.val (.ref x0), .val (.long (own_fold f i)), .second, .val (.ref x0), .val (.int (Int32.ofNat n)), .val (.int iv), sl] [(.int iv), (.ref x0)]))
        refine own_Goes.step (own_bald X0 hx hZ e0 A0 (i := i) hi hkn (v := (.int (f i))) rfl (g := (mkF m 23 #[.val (.ref x0), .val (.long (own_fold f i)), .second, .val (.ref x0), .val (.int (Int32.ofNat n)), .val (.int iv), sl] [(.int iv), (.ref x0)])) rfl rfl (hb hby d2_23)) ?_
        show own_Goes p e below s (own_F2 Z x0 n f n0 h0) 0 0 (s₁.setTop (mkF m 24 #[.val (.ref x0), .val (.long (own_fold f i)), .second, .val (.ref x0), .val (.int (Int32.ofNat n)), .val (.int iv), sl] [(.int (f i))]))
        refine own_Goes.step (fun t k => XS.istoreS X0.here hx rfl (hb hby d2_24) rfl rfl hs k) ?_
        show own_Goes p e below s (own_F2 Z x0 n f n0 h0) 0 0 (s₁.setTop (mkF m 26 #[.val (.ref x0), .val (.long (own_fold f i)), .second, .val (.ref x0), .val (.int (Int32.ofNat n)), .val (.int iv), .val (.int (f i))] []))
        refine own_Goes.step (fun t k => XT.lloadN X0.here hx rfl (hb hby d2_26) rfl k) ?_
        show own_Goes p e below s (own_F2 Z x0 n f n0 h0) 0 0 (s₁.setTop (mkF m 27 #[.val (.ref x0), .val (.long (own_fold f i)), .second, .val (.ref x0), .val (.int (Int32.ofNat n)), .val (.int iv), .val (.int (f i))] [(.long (own_fold f i))]))
        refine own_Goes.step (fun t k => XS.iload X0.here hx rfl (hb hby d2_27) rfl k) ?_
        show own_Goes p e below s (own_F2 Z x0 n f n0 h0) 0 0 (s₁.setTop (mkF m 29 #[.val (.ref x0), .val (.long (own_fold f i)), .second, .val (.ref x0), .val (.int (Int32.ofNat n)), .val (.int iv), .val (.int (f i))] [(.int (f i)), (.long (own_fold f i))]))
        refine own_Goes.step (fun t k => XT.sipushV X0.here hx rfl (255 : Int32) (hb hby d2_29) (by decide) k) ?_
        show own_Goes p e below s (own_F2 Z x0 n f n0 h0) 0 0 (s₁.setTop (mkF m 32 #[.val (.ref x0), .val (.long (own_fold f i)), .second, .val (.ref x0), .val (.int (Int32.ofNat n)), .val (.int iv), .val (.int (f i))] [(.int (255 : Int32)), (.int (f i)), (.long (own_fold f i))]))
        refine own_Goes.step (fun t k => XS.iand X0.here hx rfl (hb hby d2_32) rfl k) ?_
        show own_Goes p e below s (own_F2 Z x0 n f n0 h0) 0 0 (s₁.setTop (mkF m 33 #[.val (.ref x0), .val (.long (own_fold f i)), .second, .val (.ref x0), .val (.int (Int32.ofNat n)), .val (.int iv), .val (.int (f i))] [(.int ((f i) &&& (255 : Int32))), (.long (own_fold f i))]))
        refine own_Goes.step (fun t k => XT.i2l X0.here hx rfl (hb hby d2_33) rfl k) ?_
        show own_Goes p e below s (own_F2 Z x0 n f n0 h0) 0 0 (s₁.setTop (mkF m 34 #[.val (.ref x0), .val (.long (own_fold f i)), .second, .val (.ref x0), .val (.int (Int32.ofNat n)), .val (.int iv), .val (.int (f i))] [(.long (((f i) &&& (255 : Int32)).toInt64)), (.long (own_fold f i))]))
        refine own_Goes.step (fun t k => XT.lxor X0.here hx rfl (hb hby d2_34) rfl k) ?_
        show own_Goes p e below s (own_F2 Z x0 n f n0 h0) 0 0 (s₁.setTop (mkF m 35 #[.val (.ref x0), .val (.long (own_fold f i)), .second, .val (.ref x0), .val (.int (Int32.ofNat n)), .val (.int iv), .val (.int (f i))] [(.long ((own_fold f i) ^^^ (((f i) &&& (255 : Int32)).toInt64)))]))
        refine own_Goes.step (fun t k => X0.ldc2J hx hown (mvT hZ (hw _ (List.mem_of_getElem? (i := 20) rfl))) rfl (hb hby d2_35) k) ?_
        show own_Goes p e below s (own_F2 Z x0 n f n0 h0) 0 0 (s₁.setTop (mkF m 38 #[.val (.ref x0), .val (.long (own_fold f i)), .second, .val (.ref x0), .val (.int (Int32.ofNat n)), .val (.int iv), .val (.int (f i))] [(.long (1099511628211 : Int64)), (.long ((own_fold f i) ^^^ (((f i) &&& (255 : Int32)).toInt64)))]))
        refine own_Goes.step (fun t k => XT.lmul X0.here hx rfl (hb hby d2_38) rfl k) ?_
        show own_Goes p e below s (own_F2 Z x0 n f n0 h0) 0 0 (s₁.setTop (mkF m 39 #[.val (.ref x0), .val (.long (own_fold f i)), .second, .val (.ref x0), .val (.int (Int32.ofNat n)), .val (.int iv), .val (.int (f i))] [(.long (((own_fold f i) ^^^ (((f i) &&& (255 : Int32)).toInt64)) * (1099511628211 : Int64)))]))
        refine own_Goes.step (fun t k => XT.lstoreN X0.here hx rfl (hb hby d2_39) rfl (l' := #[.val (.ref x0), .val (.long (((own_fold f i) ^^^ (((f i) &&& (255 : Int32)).toInt64)) * (1099511628211 : Int64))), .second, .val (.ref x0), .val (.int (Int32.ofNat n)), .val (.int iv), .val (.int (f i))]) rfl k) ?_
        show own_Goes p e below s (own_F2 Z x0 n f n0 h0) 0 0 (s₁.setTop (mkF m 40 #[.val (.ref x0), .val (.long (((own_fold f i) ^^^ (((f i) &&& (255 : Int32)).toInt64)) * (1099511628211 : Int64))), .second, .val (.ref x0), .val (.int (Int32.ofNat n)), .val (.int iv), .val (.int (f i))] []))
        refine own_Goes.step (fun t k => XT.iincV X0.here hx rfl (1 : Int32) (hb hby d2_40) (by decide) rfl (l' := #[.val (.ref x0), .val (.long (((own_fold f i) ^^^ (((f i) &&& (255 : Int32)).toInt64)) * (1099511628211 : Int64))), .second, .val (.ref x0), .val (.int (Int32.ofNat n)), .val (.int (iv + (1 : Int32))), .val (.int (f i))]) rfl k) ?_
        show own_Goes p e below s (own_F2 Z x0 n f n0 h0) 0 0 (s₁.setTop (mkF m 43 #[.val (.ref x0), .val (.long (((own_fold f i) ^^^ (((f i) &&& (255 : Int32)).toInt64)) * (1099511628211 : Int64))), .second, .val (.ref x0), .val (.int (Int32.ofNat n)), .val (.int (iv + (1 : Int32))), .val (.int (f i))] []))
        refine own_Goes.step (fun t k => XS.goto X0.here hx rfl (pc0 := 43) (pc' := 13) rfl (hb hby d2_43) (by decide) (by decide) k) ?_
        show own_Goes p e below s (own_F2 Z x0 n f n0 h0) 0 0 (s₁.setTop (mkF m 13 #[.val (.ref x0), .val (.long (((own_fold f i) ^^^ (((f i) &&& (255 : Int32)).toInt64)) * (1099511628211 : Int64))), .second, .val (.ref x0), .val (.int (Int32.ofNat n)), .val (.int (iv + (1 : Int32))), .val (.int (f i))] []))
        exact ih (i + 1) _ _ (own_inc hi (by omega)) (by omega) (Or.inr ⟨_, rfl, rfl⟩)
    exact loop n 0 _ _ rfl (by omega) (Or.inl rfl)
  obtain ⟨t2, o2, q1, q2, q3, q4⟩ := hgo
  exact ⟨t2, o2, castTop (ef_2 m x0) q1, q2, q3, q4⟩
theorem d1_0 : decode method_2_code 0 = .ok (.iload_n 3, 1) := by decide +kernel
theorem d1_1 : decode method_2_code 1 = .ok (.ifCond .ne 5, 3) := by decide +kernel
theorem d1_4 : decode method_2_code 4 = .ok (.lload_n 0, 1) := by decide +kernel
theorem d1_5 : decode method_2_code 5 = .ok (.lreturn, 1) := by decide +kernel
theorem d1_6 : decode method_2_code 6 = .ok (.lload_n 0, 1) := by decide +kernel
theorem d1_7 : decode method_2_code 7 = .ok (.iload_n 2, 1) := by decide +kernel
theorem d1_8 : decode method_2_code 8 = .ok (.sipush 255, 3) := by decide +kernel
theorem d1_11 : decode method_2_code 11 = .ok (.iand, 1) := by decide +kernel
theorem d1_12 : decode method_2_code 12 = .ok (.i2l, 1) := by decide +kernel
theorem d1_13 : decode method_2_code 13 = .ok (.lxor, 1) := by decide +kernel
theorem d1_14 : decode method_2_code 14 = .ok (.ldc2_w 7, 3) := by decide +kernel
theorem d1_17 : decode method_2_code 17 = .ok (.lmul, 1) := by decide +kernel
theorem d1_18 : decode method_2_code 18 = .ok (.lreturn, 1) := by decide +kernel
theorem pn_1 : plainName "com/example/backtrail/backtrail/core/GraphLayoutHashPinLaw" = true := by first | (simp [plainName, overriddenIn]; done) | decide +kernel
theorem pd_1 : parseMethodDescriptor "(JIZ)J" = some ⟨[.long, .int, .boolean], (some .long)⟩ := by decide +kernel
theorem ef_1 (m : MethodId) (x0 : Int64) (x1 : Int32) (x2 : Int32) : entryFrame m #[(.long x0), (.int x1), (.int x2)] 4 = mkF m 0 #[.val (.long x0), .second, .val (.int x1), .val (.int x2)] [] := by first | (simp [entryFrame, mkF, argsToLocals, Value.category]; done) | rfl
def own_f1 (x0 : Int64) (x1 : Int32) (x2 : Int32) : Int64 := (if x2 = (0 : Int32) then x0 else ((x0 ^^^ ((x1 &&& (255 : Int32)).toInt64)) * (1099511628211 : Int64)))
def own_F1 (Z : State) (x0 : Int64) (x1 : Int32) (x2 : Int32)  (h0 : Heap) (v : Option Value) (h : Heap) (L : List Loc) : Prop := v = some (.long (own_f1 x0 x1 x2)) ∧ L = [] ∧ h = h0
set_option maxRecDepth 65536 in
set_option maxHeartbeats 40000000 in
theorem own_m1 (l : Launch) (Z : State) (a0 : Array Value) (hw : ∀ d ∈ tables_1, d.before a0 Z = true) (ws : List Jvm.Cond) (x0 : Int64) (x1 : Int32) (x2 : Int32)  (h0 : Heap)   :
    MetFree l (⟨"com/example/backtrail/backtrail/core/GraphLayoutHashPinLaw", "step", "(JIZ)J"⟩ : MethodName) (head1 (Jvm.Cond.code (⟨"com/example/backtrail/backtrail/core/GraphLayoutHashPinLaw", "step", "(JIZ)J"⟩ : MethodName) method_2_code 4 (some .long) :: ws) ({ frames := 0, cells := 0, slots := 0, locals := 0 } : Room)) (fun a U => a = #[(.long x0), (.int x1), (.int x2)] ∧ Z.Warmed39 U.vm ∧ U.heap = h0) (fun _ _ _ _ _ => True) (fun _ U o U' => ∃ v L, o = .returned v ∧ own_F1 Z x0 x1 x2 h0 v U'.heap L ∧ FrameEnd U o U' L ({ frames := 0, cells := 0, slots := 0, locals := 0 } : Room).cells ({ frames := 0, cells := 0, slots := 0, locals := 0 } : Room).slots) := by
  refine MetFree.of_bodySF (plainFor_of_name pn_1) hisR ?_
  intro p e s m args below meth c s₁ Bd hml0 hP hK
  obtain ⟨rfl, hZ, hh⟩ := hP
  have hx := Bd.exec
  have hby := Bd.bytes
  have hml : c.maxLocals = 4 := hml0
  have hown : s.vm.findClass "com/example/backtrail/backtrail/core/GraphLayoutHashPinLaw" = some m.cls := findClass_of_methodNamed Bd.named
  have hnm := (name_of_methodNamed Bd.named Bd.method).1
  have X0 : Stand p l e ({ frames := 0, cells := 0, slots := 0, locals := 0 } : Room) s m #[(.long x0), (.int x1), (.int x2)] below meth c s₁ [] 0 0 := Stand.of_body Bd
  have e0 : s₁.heap = h0 := by rw [← hh, Bd.state]; rfl
  have hgo : own_Goes p e below s (own_F1 Z x0 x1 x2 h0) 0 0 (s₁.setTop (mkF m 0 #[.val (.long x0), .second, .val (.int x1), .val (.int x2)] [])) := by
    refine own_Goes.step (fun t k => XS.iloadN X0.here hx rfl (hb hby d1_0) rfl k) ?_
    show own_Goes p e below s (own_F1 Z x0 x1 x2 h0) 0 0 (s₁.setTop (mkF m 1 #[.val (.long x0), .second, .val (.int x1), .val (.int x2)] [(.int x2)]))
    by_cases hc1 : x2 = (0 : Int32)
    · refine own_Goes.step (fun t k => XS.ifNo X0.here hx rfl (hb hby d1_1) rfl (XT.i0_ne_f hc1) k) ?_
      show own_Goes p e below s (own_F1 Z x0 x1 x2 h0) 0 0 (s₁.setTop (mkF m 4 #[.val (.long x0), .second, .val (.int x1), .val (.int x2)] []))
      refine own_Goes.step (fun t k => XT.lloadN X0.here hx rfl (hb hby d1_4) rfl k) ?_
      show own_Goes p e below s (own_F1 Z x0 x1 x2 h0) 0 0 (s₁.setTop (mkF m 5 #[.val (.long x0), .second, .val (.int x1), .val (.int x2)] [(.long x0)]))
      exact own_endJ X0 hx Bd.notSynchronized Bd.returns (hb hby d1_5) ⟨(congrArg (fun z => some (Value.long z)) (show x0 = own_f1 x0 x1 x2 from by simp only [own_f1, if_pos hc1])), rfl, e0⟩ (by decide) (by decide)
    · refine own_Goes.step (fun t k => XS.ifYes X0.here hx rfl (pc0 := 1) (pc' := 6) rfl (hb hby d1_1) rfl (XT.i0_ne_t hc1) (by decide) (by decide) k) ?_
      show own_Goes p e below s (own_F1 Z x0 x1 x2 h0) 0 0 (s₁.setTop (mkF m 6 #[.val (.long x0), .second, .val (.int x1), .val (.int x2)] []))
      refine own_Goes.step (fun t k => XT.lloadN X0.here hx rfl (hb hby d1_6) rfl k) ?_
      show own_Goes p e below s (own_F1 Z x0 x1 x2 h0) 0 0 (s₁.setTop (mkF m 7 #[.val (.long x0), .second, .val (.int x1), .val (.int x2)] [(.long x0)]))
      refine own_Goes.step (fun t k => XS.iloadN X0.here hx rfl (hb hby d1_7) rfl k) ?_
      show own_Goes p e below s (own_F1 Z x0 x1 x2 h0) 0 0 (s₁.setTop (mkF m 8 #[.val (.long x0), .second, .val (.int x1), .val (.int x2)] [(.int x1), (.long x0)]))
      refine own_Goes.step (fun t k => XT.sipushV X0.here hx rfl (255 : Int32) (hb hby d1_8) (by decide) k) ?_
      show own_Goes p e below s (own_F1 Z x0 x1 x2 h0) 0 0 (s₁.setTop (mkF m 11 #[.val (.long x0), .second, .val (.int x1), .val (.int x2)] [(.int (255 : Int32)), (.int x1), (.long x0)]))
      refine own_Goes.step (fun t k => XS.iand X0.here hx rfl (hb hby d1_11) rfl k) ?_
      show own_Goes p e below s (own_F1 Z x0 x1 x2 h0) 0 0 (s₁.setTop (mkF m 12 #[.val (.long x0), .second, .val (.int x1), .val (.int x2)] [(.int (x1 &&& (255 : Int32))), (.long x0)]))
      refine own_Goes.step (fun t k => XT.i2l X0.here hx rfl (hb hby d1_12) rfl k) ?_
      show own_Goes p e below s (own_F1 Z x0 x1 x2 h0) 0 0 (s₁.setTop (mkF m 13 #[.val (.long x0), .second, .val (.int x1), .val (.int x2)] [(.long ((x1 &&& (255 : Int32)).toInt64)), (.long x0)]))
      refine own_Goes.step (fun t k => XT.lxor X0.here hx rfl (hb hby d1_13) rfl k) ?_
      show own_Goes p e below s (own_F1 Z x0 x1 x2 h0) 0 0 (s₁.setTop (mkF m 14 #[.val (.long x0), .second, .val (.int x1), .val (.int x2)] [(.long (x0 ^^^ ((x1 &&& (255 : Int32)).toInt64)))]))
      refine own_Goes.step (fun t k => X0.ldc2J hx hown (mvT hZ (hw _ (List.mem_of_getElem? (i := 19) rfl))) rfl (hb hby d1_14) k) ?_
      show own_Goes p e below s (own_F1 Z x0 x1 x2 h0) 0 0 (s₁.setTop (mkF m 17 #[.val (.long x0), .second, .val (.int x1), .val (.int x2)] [(.long (1099511628211 : Int64)), (.long (x0 ^^^ ((x1 &&& (255 : Int32)).toInt64)))]))
      refine own_Goes.step (fun t k => XT.lmul X0.here hx rfl (hb hby d1_17) rfl k) ?_
      show own_Goes p e below s (own_F1 Z x0 x1 x2 h0) 0 0 (s₁.setTop (mkF m 18 #[.val (.long x0), .second, .val (.int x1), .val (.int x2)] [(.long ((x0 ^^^ ((x1 &&& (255 : Int32)).toInt64)) * (1099511628211 : Int64)))]))
      exact own_endJ X0 hx Bd.notSynchronized Bd.returns (hb hby d1_18) ⟨(congrArg (fun z => some (Value.long z)) (show ((x0 ^^^ ((x1 &&& (255 : Int32)).toInt64)) * (1099511628211 : Int64)) = own_f1 x0 x1 x2 from by simp only [own_f1, if_neg hc1])), rfl, e0⟩ (by decide) (by decide)
  obtain ⟨t2, o2, q1, q2, q3, q4⟩ := hgo
  exact ⟨t2, o2, castTop (ef_1 m x0 x1 x2) q1, q2, q3, q4⟩
theorem pn_0 : plainName "com/example/backtrail/backtrail/core/GraphLayoutHashPinLaw" = true := by first | (simp [plainName, overriddenIn]; done) | decide +kernel
theorem pd_0 : parseMethodDescriptor "(IIIII)Z" = some ⟨[.int, .int, .int, .int, .int], (some .boolean)⟩ := by decide +kernel
theorem ef_0 (m : MethodId) (x0 : Int32) (x1 : Int32) (x2 : Int32) (x3 : Int32) (x4 : Int32) : entryFrame m #[(.int x0), (.int x1), (.int x2), (.int x3), (.int x4)] maxLocals = mkF m 0 #[.val (.int x0), .val (.int x1), .val (.int x2), .val (.int x3), .val (.int x4), .unset, .unset, .unset, .unset] [] := by first | (simp [entryFrame, mkF, argsToLocals, Value.category, maxLocals]; done) | rfl
def own_f0_1 (x0 : Int32) (x1 : Int32) (x2 : Int32) (x3 : Int32) (x4 : Int32) : Nat → Int32 := fun j => if j = 0 then (nar .byte x1.toInt8.toInt32) else (fun _ => (0 : Int32)) j
def own_f0_2 (x0 : Int32) (x1 : Int32) (x2 : Int32) (x3 : Int32) (x4 : Int32) : Nat → Int32 := fun j => if j = 1 then (nar .byte x2.toInt8.toInt32) else (own_f0_1 x0 x1 x2 x3 x4) j
def own_f0_3 (x0 : Int32) (x1 : Int32) (x2 : Int32) (x3 : Int32) (x4 : Int32) : Nat → Int32 := fun j => if j = 2 then (nar .byte x3.toInt8.toInt32) else (own_f0_2 x0 x1 x2 x3 x4) j
def own_f0_4 (x0 : Int32) (x1 : Int32) (x2 : Int32) (x3 : Int32) (x4 : Int32) : Nat → Int32 := fun j => if j = 3 then (nar .byte x4.toInt8.toInt32) else (own_f0_3 x0 x1 x2 x3 x4) j
def own_f0_5 (x0 : Int32) (x1 : Int32) (x2 : Int32) (x3 : Int32) (x4 : Int32) : Int64 := (own_f1 (own_f1 (-3750763034362895579 : Int64) x1 (1 : Int32)) x2 (1 : Int32))
def own_f0_6 (x0 : Int32) (x1 : Int32) (x2 : Int32) (x3 : Int32) (x4 : Int32) : Int64 := (own_f1 (own_f1 (own_f0_5 x0 x1 x2 x3 x4) x3 (1 : Int32)) x4 (1 : Int32))
def own_f0_7 (x0 : Int32) (x1 : Int32) (x2 : Int32) (x3 : Int32) (x4 : Int32) : Int64 := (own_f1 (own_f1 (own_f0_5 x0 x1 x2 x3 x4) x3 (1 : Int32)) x4 (0 : Int32))
def own_f0_8 (x0 : Int32) (x1 : Int32) (x2 : Int32) (x3 : Int32) (x4 : Int32) : Int64 := (own_f1 (own_f1 (own_f0_5 x0 x1 x2 x3 x4) x3 (0 : Int32)) x4 (0 : Int32))
def own_f0_9 (x0 : Int32) (x1 : Int32) (x2 : Int32) (x3 : Int32) (x4 : Int32) : Int64 := (own_f1 (own_f1 (-3750763034362895579 : Int64) x1 (1 : Int32)) x2 (0 : Int32))
def own_f0_10 (x0 : Int32) (x1 : Int32) (x2 : Int32) (x3 : Int32) (x4 : Int32) : Int64 := (own_f1 (own_f1 (own_f0_9 x0 x1 x2 x3 x4) x3 (0 : Int32)) x4 (0 : Int32))
def own_f0_11 (x0 : Int32) (x1 : Int32) (x2 : Int32) (x3 : Int32) (x4 : Int32) : Int64 := (own_f1 (own_f1 (-3750763034362895579 : Int64) x1 (0 : Int32)) x2 (0 : Int32))
def own_f0_12 (x0 : Int32) (x1 : Int32) (x2 : Int32) (x3 : Int32) (x4 : Int32) : Int64 := (own_f1 (own_f1 (own_f0_11 x0 x1 x2 x3 x4) x3 (0 : Int32)) x4 (0 : Int32))
def own_f0 (x0 : Int32) (x1 : Int32) (x2 : Int32) (x3 : Int32) (x4 : Int32) : Int32 := (if (0 : Int32) < ((x0 &&& (2147483647 : Int32)) % (5 : Int32)) then (if (1 : Int32) < ((x0 &&& (2147483647 : Int32)) % (5 : Int32)) then (if (2 : Int32) < ((x0 &&& (2147483647 : Int32)) % (5 : Int32)) then (if (3 : Int32) < ((x0 &&& (2147483647 : Int32)) % (5 : Int32)) then (if (own_hash (own_f0_4 x0 x1 x2 x3 x4) (own_n x0)) = (own_f3 (own_f0_6 x0 x1 x2 x3 x4)) then (1 : Int32) else (0 : Int32)) else (if (own_hash (own_f0_3 x0 x1 x2 x3 x4) (own_n x0)) = (own_f3 (own_f0_7 x0 x1 x2 x3 x4)) then (1 : Int32) else (0 : Int32))) else (if (own_hash (own_f0_2 x0 x1 x2 x3 x4) (own_n x0)) = (own_f3 (own_f0_8 x0 x1 x2 x3 x4)) then (1 : Int32) else (0 : Int32))) else (if (own_hash (own_f0_1 x0 x1 x2 x3 x4) (own_n x0)) = (own_f3 (own_f0_10 x0 x1 x2 x3 x4)) then (1 : Int32) else (0 : Int32))) else (if (own_hash (fun _ => (0 : Int32)) (own_n x0)) = (own_f3 (own_f0_12 x0 x1 x2 x3 x4)) then (1 : Int32) else (0 : Int32)))
def own_F0 (Z : State) (x0 : Int32) (x1 : Int32) (x2 : Int32) (x3 : Int32) (x4 : Int32)  (n0 : Nat) (h0 : Heap) (v : Option Value) (h : Heap) (L : List Loc) : Prop := v = some (.int (own_f0 x0 x1 x2 x3 x4)) ∧ Fr n0 L
set_option maxRecDepth 65536 in
set_option maxHeartbeats 40000000 in
theorem own_m0 (l : Launch) (Z : State) (a0 : Array Value) (hw : ∀ d ∈ tables_1, d.before a0 Z = true) (ws : List Jvm.Cond) (x0 : Int32) (x1 : Int32) (x2 : Int32) (x3 : Int32) (x4 : Int32)  (n0 : Nat) (h0 : Heap) (Z0 : n0 ≤ h0.size)   :
    MetFree l x (head1 (Jvm.Cond.code x code maxLocals ret :: ws) room_1) (fun a U => a = #[(.int x0), (.int x1), (.int x2), (.int x3), (.int x4)] ∧ Z.Warmed39 U.vm ∧ U.heap = h0) (fun _ _ _ _ _ => True) (fun _ U o U' => ∃ v L, o = .returned v ∧ own_F0 Z x0 x1 x2 x3 x4 n0 h0 v U'.heap L ∧ FrameEnd U o U' L room_1.cells room_1.slots) := by
  refine MetFree.of_bodySF (plainFor_of_name pn_0) hisR ?_
  intro p e s m args below meth c s₁ Bd hml0 hP hK
  obtain ⟨rfl, hZ, hh⟩ := hP
  have hx := Bd.exec
  have hby := Bd.bytes
  have hml : c.maxLocals = 9 := hml0
  have hown : s.vm.findClass "com/example/backtrail/backtrail/core/GraphLayoutHashPinLaw" = some m.cls := findClass_of_methodNamed Bd.named
  have hnm := (name_of_methodNamed Bd.named Bd.method).1
  have X0 : Stand p l e room_1 s m #[(.int x0), (.int x1), (.int x2), (.int x3), (.int x4)] below meth c s₁ [] 0 0 := Stand.of_body Bd
  have e0 : s₁.heap = h0 := by rw [← hh, Bd.state]; rfl
  have N0 := Fr.nil n0
  have K0 : Keep h0 h0 [] := Keep.refl h0 []
  have hgo : own_Goes p e below s (own_F0 Z x0 x1 x2 x3 x4 n0 h0) room_1.cells room_1.slots (s₁.setTop (mkF m 0 #[.val (.int x0), .val (.int x1), .val (.int x2), .val (.int x3), .val (.int x4), .unset, .unset, .unset, .unset] [])) := by
    refine own_Goes.step (fun t k => XS.iloadN X0.here hx rfl (hb hby at_0) rfl k) ?_
    show own_Goes p e below s (own_F0 Z x0 x1 x2 x3 x4 n0 h0) room_1.cells room_1.slots (s₁.setTop (mkF m 1 #[.val (.int x0), .val (.int x1), .val (.int x2), .val (.int x3), .val (.int x4), .unset, .unset, .unset, .unset] [(.int x0)]))
    refine own_Goes.step (fun t k => X0.ldcI hx hown (mvT hZ (hw _ (List.mem_of_getElem? (i := 0) rfl))) rfl (hb hby at_1) k) ?_
    show own_Goes p e below s (own_F0 Z x0 x1 x2 x3 x4 n0 h0) room_1.cells room_1.slots (s₁.setTop (mkF m 3 #[.val (.int x0), .val (.int x1), .val (.int x2), .val (.int x3), .val (.int x4), .unset, .unset, .unset, .unset] [(.int (2147483647 : Int32)), (.int x0)]))
    refine own_Goes.step (fun t k => XS.iand X0.here hx rfl (hb hby at_3) rfl k) ?_
    show own_Goes p e below s (own_F0 Z x0 x1 x2 x3 x4 n0 h0) room_1.cells room_1.slots (s₁.setTop (mkF m 4 #[.val (.int x0), .val (.int x1), .val (.int x2), .val (.int x3), .val (.int x4), .unset, .unset, .unset, .unset] [(.int (x0 &&& (2147483647 : Int32)))]))
    refine own_Goes.step (fun t k => XT.iconstV X0.here hx rfl (5 : Int32) (hb hby at_4) (by decide) k) ?_
    show own_Goes p e below s (own_F0 Z x0 x1 x2 x3 x4 n0 h0) room_1.cells room_1.slots (s₁.setTop (mkF m 5 #[.val (.int x0), .val (.int x1), .val (.int x2), .val (.int x3), .val (.int x4), .unset, .unset, .unset, .unset] [(.int (5 : Int32)), (.int (x0 &&& (2147483647 : Int32)))]))
    refine own_Goes.step (fun t k => iremM X0 hx rfl (hb hby at_5) rfl (by decide) k) ?_
    show own_Goes p e below s (own_F0 Z x0 x1 x2 x3 x4 n0 h0) room_1.cells room_1.slots (s₁.setTop (mkF m 6 #[.val (.int x0), .val (.int x1), .val (.int x2), .val (.int x3), .val (.int x4), .unset, .unset, .unset, .unset] [(.int ((x0 &&& (2147483647 : Int32)) % (5 : Int32)))]))
    refine own_Goes.step (fun t k => XS.istore X0.here hx rfl (hb hby at_6) rfl (l' := #[.val (.int x0), .val (.int x1), .val (.int x2), .val (.int x3), .val (.int x4), .val (.int ((x0 &&& (2147483647 : Int32)) % (5 : Int32))), .unset, .unset, .unset]) rfl k) ?_
    show own_Goes p e below s (own_F0 Z x0 x1 x2 x3 x4 n0 h0) room_1.cells room_1.slots (s₁.setTop (mkF m 8 #[.val (.int x0), .val (.int x1), .val (.int x2), .val (.int x3), .val (.int x4), .val (.int ((x0 &&& (2147483647 : Int32)) % (5 : Int32))), .unset, .unset, .unset] []))
    refine own_Goes.step (fun t k => XS.iload X0.here hx rfl (hb hby at_8) rfl k) ?_
    show own_Goes p e below s (own_F0 Z x0 x1 x2 x3 x4 n0 h0) room_1.cells room_1.slots (s₁.setTop (mkF m 10 #[.val (.int x0), .val (.int x1), .val (.int x2), .val (.int x3), .val (.int x4), .val (.int ((x0 &&& (2147483647 : Int32)) % (5 : Int32))), .unset, .unset, .unset] [(.int ((x0 &&& (2147483647 : Int32)) % (5 : Int32)))]))
    obtain ⟨T1, h1, k1, X1, e1, E1, A1, st1⟩ := newP X0 hx hZ (hw _ (List.mem_of_getElem? (i := 1) rfl)) e0 (g := (mkF m 10 #[.val (.int x0), .val (.int x1), .val (.int x2), .val (.int x3), .val (.int x4), .val (.int ((x0 &&& (2147483647 : Int32)) % (5 : Int32))), .unset, .unset, .unset] [(.int ((x0 &&& (2147483647 : Int32)) % (5 : Int32)))])) rfl (hb hby at_10) rfl (own_nneg x0) (cap := 4) (by rw [own_idx (own_ne x0)]; exact own_n4 x0) (by decide) (by decide) (by decide)
    obtain ⟨a1, g1⟩ : ∃ z, z = h0.size := ⟨_, rfl⟩
    rw [← g1] at A1 st1
    have r1 : own_Ar Z h1 a1 .byte (own_n x0) (fun uu => .int ((fun _ => (0 : Int32)) uu)) := (own_idx (own_ne x0) ▸ own_Ar.new A1)
    have ga1 : n0 ≤ a1 := Nat.le_trans Z0 (Nat.le_of_eq g1.symm)
    have Z1 : n0 ≤ h1.size := Nat.le_trans Z0 E1.1
    have K1 := K0.ext E1
    have Kh1 : h0.size ≤ a1 := Nat.le_trans K0.1 (Nat.le_of_eq g1.symm)
    refine own_Goes.step st1 ?_
    show own_Goes p e below s (own_F0 Z x0 x1 x2 x3 x4 n0 h0) room_1.cells room_1.slots (T1.setTop (mkF m 12 #[.val (.int x0), .val (.int x1), .val (.int x2), .val (.int x3), .val (.int x4), .val (.int ((x0 &&& (2147483647 : Int32)) % (5 : Int32))), .unset, .unset, .unset] [(.ref a1)]))
    refine own_Goes.step (fun t k => XS.astore X1.here hx rfl (hb hby at_12) rfl rfl (l' := #[.val (.int x0), .val (.int x1), .val (.int x2), .val (.int x3), .val (.int x4), .val (.int ((x0 &&& (2147483647 : Int32)) % (5 : Int32))), .val (.ref a1), .unset, .unset]) rfl k) ?_
    show own_Goes p e below s (own_F0 Z x0 x1 x2 x3 x4 n0 h0) room_1.cells room_1.slots (T1.setTop (mkF m 14 #[.val (.int x0), .val (.int x1), .val (.int x2), .val (.int x3), .val (.int x4), .val (.int ((x0 &&& (2147483647 : Int32)) % (5 : Int32))), .val (.ref a1), .unset, .unset] []))
    refine own_Goes.step (fun t k => XS.iload X1.here hx rfl (hb hby at_14) rfl k) ?_
    show own_Goes p e below s (own_F0 Z x0 x1 x2 x3 x4 n0 h0) room_1.cells room_1.slots (T1.setTop (mkF m 16 #[.val (.int x0), .val (.int x1), .val (.int x2), .val (.int x3), .val (.int x4), .val (.int ((x0 &&& (2147483647 : Int32)) % (5 : Int32))), .val (.ref a1), .unset, .unset] [(.int ((x0 &&& (2147483647 : Int32)) % (5 : Int32)))]))
    by_cases hc2 : (0 : Int32) < ((x0 &&& (2147483647 : Int32)) % (5 : Int32))
    · refine own_Goes.step (fun t k => XS.ifNo X1.here hx rfl (hb hby at_16) rfl (XT.i0_le_f hc2) k) ?_
      show own_Goes p e below s (own_F0 Z x0 x1 x2 x3 x4 n0 h0) room_1.cells room_1.slots (T1.setTop (mkF m 19 #[.val (.int x0), .val (.int x1), .val (.int x2), .val (.int x3), .val (.int x4), .val (.int ((x0 &&& (2147483647 : Int32)) % (5 : Int32))), .val (.ref a1), .unset, .unset] []))
      refine own_Goes.step (fun t k => XS.aload X1.here hx rfl (hb hby at_19) rfl rfl k) ?_
      show own_Goes p e below s (own_F0 Z x0 x1 x2 x3 x4 n0 h0) room_1.cells room_1.slots (T1.setTop (mkF m 21 #[.val (.int x0), .val (.int x1), .val (.int x2), .val (.int x3), .val (.int x4), .val (.int ((x0 &&& (2147483647 : Int32)) % (5 : Int32))), .val (.ref a1), .unset, .unset] [(.ref a1)]))
      refine own_Goes.step (fun t k => XT.iconstV X1.here hx rfl (0 : Int32) (hb hby at_21) (by decide) k) ?_
      show own_Goes p e below s (own_F0 Z x0 x1 x2 x3 x4 n0 h0) room_1.cells room_1.slots (T1.setTop (mkF m 22 #[.val (.int x0), .val (.int x1), .val (.int x2), .val (.int x3), .val (.int x4), .val (.int ((x0 &&& (2147483647 : Int32)) % (5 : Int32))), .val (.ref a1), .unset, .unset] [(.int (0 : Int32)), (.ref a1)]))
      refine own_Goes.step (fun t k => XS.iloadN X1.here hx rfl (hb hby at_22) rfl k) ?_
      show own_Goes p e below s (own_F0 Z x0 x1 x2 x3 x4 n0 h0) room_1.cells room_1.slots (T1.setTop (mkF m 23 #[.val (.int x0), .val (.int x1), .val (.int x2), .val (.int x3), .val (.int x4), .val (.int ((x0 &&& (2147483647 : Int32)) % (5 : Int32))), .val (.ref a1), .unset, .unset] [(.int x1), (.int (0 : Int32)), (.ref a1)]))
      refine own_Goes.step (fun t k => XT.i2b X1.here hx rfl (hb hby at_23) rfl k) ?_
      show own_Goes p e below s (own_F0 Z x0 x1 x2 x3 x4 n0 h0) room_1.cells room_1.slots (T1.setTop (mkF m 24 #[.val (.int x0), .val (.int x1), .val (.int x2), .val (.int x3), .val (.int x4), .val (.int ((x0 &&& (2147483647 : Int32)) % (5 : Int32))), .val (.ref a1), .unset, .unset] [(.int x1.toInt8.toInt32), (.int (0 : Int32)), (.ref a1)]))
      obtain ⟨T3, h3, X3, e3, W3, st3⟩ := own_bast X1 hx hZ e1 r1 (i := 0) rfl (own_nin' (a := 0) rfl hc2) (g := (mkF m 24 #[.val (.int x0), .val (.int x1), .val (.int x2), .val (.int x3), .val (.int x4), .val (.int ((x0 &&& (2147483647 : Int32)) % (5 : Int32))), .val (.ref a1), .unset, .unset] [(.int x1.toInt8.toInt32), (.int (0 : Int32)), (.ref a1)])) rfl rfl (hb hby at_24)
      refine own_Goes.step st3 ?_
      have f4 : own_Ar Z h3 a1 .byte (own_n x0) (fun uu => .int ((own_f0_1 x0 x1 x2 x3 x4) uu)) := (r1.set W3).congr fun j _ => by dsimp only [own_f0_1]; exact (apply_ite Value.int _ _ _).symm
      have K5 := K1.wr W3 (Or.inr Kh1)
      have N6 := Fr.snoc X3 N0 ga1
      have Z7 : n0 ≤ h3.size := Nat.le_trans Z1 (Keep.of_wr W3).1
      show own_Goes p e below s (own_F0 Z x0 x1 x2 x3 x4 n0 h0) room_1.cells room_1.slots (T3.setTop (mkF m 25 #[.val (.int x0), .val (.int x1), .val (.int x2), .val (.int x3), .val (.int x4), .val (.int ((x0 &&& (2147483647 : Int32)) % (5 : Int32))), .val (.ref a1), .unset, .unset] []))
      refine own_Goes.step (fun t k => XS.iload X3.here hx rfl (hb hby at_25) rfl k) ?_
      show own_Goes p e below s (own_F0 Z x0 x1 x2 x3 x4 n0 h0) room_1.cells room_1.slots (T3.setTop (mkF m 27 #[.val (.int x0), .val (.int x1), .val (.int x2), .val (.int x3), .val (.int x4), .val (.int ((x0 &&& (2147483647 : Int32)) % (5 : Int32))), .val (.ref a1), .unset, .unset] [(.int ((x0 &&& (2147483647 : Int32)) % (5 : Int32)))]))
      refine own_Goes.step (fun t k => XT.iconstV X3.here hx rfl (1 : Int32) (hb hby at_27) (by decide) k) ?_
      show own_Goes p e below s (own_F0 Z x0 x1 x2 x3 x4 n0 h0) room_1.cells room_1.slots (T3.setTop (mkF m 28 #[.val (.int x0), .val (.int x1), .val (.int x2), .val (.int x3), .val (.int x4), .val (.int ((x0 &&& (2147483647 : Int32)) % (5 : Int32))), .val (.ref a1), .unset, .unset] [(.int (1 : Int32)), (.int ((x0 &&& (2147483647 : Int32)) % (5 : Int32)))]))
      by_cases hc8 : (1 : Int32) < ((x0 &&& (2147483647 : Int32)) % (5 : Int32))
      · refine own_Goes.step (fun t k => XS.icmpNo X3.here hx rfl (hb hby at_28) rfl (XT.ii_le_f hc8) k) ?_
        show own_Goes p e below s (own_F0 Z x0 x1 x2 x3 x4 n0 h0) room_1.cells room_1.slots (T3.setTop (mkF m 31 #[.val (.int x0), .val (.int x1), .val (.int x2), .val (.int x3), .val (.int x4), .val (.int ((x0 &&& (2147483647 : Int32)) % (5 : Int32))), .val (.ref a1), .unset, .unset] []))
        refine own_Goes.step (fun t k => XS.aload X3.here hx rfl (hb hby at_31) rfl rfl k) ?_
        show own_Goes p e below s (own_F0 Z x0 x1 x2 x3 x4 n0 h0) room_1.cells room_1.slots (T3.setTop (mkF m 33 #[.val (.int x0), .val (.int x1), .val (.int x2), .val (.int x3), .val (.int x4), .val (.int ((x0 &&& (2147483647 : Int32)) % (5 : Int32))), .val (.ref a1), .unset, .unset] [(.ref a1)]))
        refine own_Goes.step (fun t k => XT.iconstV X3.here hx rfl (1 : Int32) (hb hby at_33) (by decide) k) ?_
        show own_Goes p e below s (own_F0 Z x0 x1 x2 x3 x4 n0 h0) room_1.cells room_1.slots (T3.setTop (mkF m 34 #[.val (.int x0), .val (.int x1), .val (.int x2), .val (.int x3), .val (.int x4), .val (.int ((x0 &&& (2147483647 : Int32)) % (5 : Int32))), .val (.ref a1), .unset, .unset] [(.int (1 : Int32)), (.ref a1)]))
        refine own_Goes.step (fun t k => XS.iloadN X3.here hx rfl (hb hby at_34) rfl k) ?_
        show own_Goes p e below s (own_F0 Z x0 x1 x2 x3 x4 n0 h0) room_1.cells room_1.slots (T3.setTop (mkF m 35 #[.val (.int x0), .val (.int x1), .val (.int x2), .val (.int x3), .val (.int x4), .val (.int ((x0 &&& (2147483647 : Int32)) % (5 : Int32))), .val (.ref a1), .unset, .unset] [(.int x2), (.int (1 : Int32)), (.ref a1)]))
        refine own_Goes.step (fun t k => XT.i2b X3.here hx rfl (hb hby at_35) rfl k) ?_
        show own_Goes p e below s (own_F0 Z x0 x1 x2 x3 x4 n0 h0) room_1.cells room_1.slots (T3.setTop (mkF m 36 #[.val (.int x0), .val (.int x1), .val (.int x2), .val (.int x3), .val (.int x4), .val (.int ((x0 &&& (2147483647 : Int32)) % (5 : Int32))), .val (.ref a1), .unset, .unset] [(.int x2.toInt8.toInt32), (.int (1 : Int32)), (.ref a1)]))
        obtain ⟨T9, h9, X9, e9, W9, st9⟩ := own_bast X3 hx hZ e3 f4 (i := 1) rfl (own_nin' (a := 1) rfl hc8) (g := (mkF m 36 #[.val (.int x0), .val (.int x1), .val (.int x2), .val (.int x3), .val (.int x4), .val (.int ((x0 &&& (2147483647 : Int32)) % (5 : Int32))), .val (.ref a1), .unset, .unset] [(.int x2.toInt8.toInt32), (.int (1 : Int32)), (.ref a1)])) rfl rfl (hb hby at_36)
        refine own_Goes.step st9 ?_
        have f10 : own_Ar Z h9 a1 .byte (own_n x0) (fun uu => .int ((own_f0_2 x0 x1 x2 x3 x4) uu)) := (f4.set W9).congr fun j _ => by dsimp only [own_f0_2]; exact (apply_ite Value.int _ _ _).symm
        have K11 := K5.wr W9 (Or.inr Kh1)
        have N12 := Fr.snoc X9 N6 ga1
        have Z13 : n0 ≤ h9.size := Nat.le_trans Z7 (Keep.of_wr W9).1
        show own_Goes p e below s (own_F0 Z x0 x1 x2 x3 x4 n0 h0) room_1.cells room_1.slots (T9.setTop (mkF m 37 #[.val (.int x0), .val (.int x1), .val (.int x2), .val (.int x3), .val (.int x4), .val (.int ((x0 &&& (2147483647 : Int32)) % (5 : Int32))), .val (.ref a1), .unset, .unset] []))
        refine own_Goes.step (fun t k => XS.iload X9.here hx rfl (hb hby at_37) rfl k) ?_
        show own_Goes p e below s (own_F0 Z x0 x1 x2 x3 x4 n0 h0) room_1.cells room_1.slots (T9.setTop (mkF m 39 #[.val (.int x0), .val (.int x1), .val (.int x2), .val (.int x3), .val (.int x4), .val (.int ((x0 &&& (2147483647 : Int32)) % (5 : Int32))), .val (.ref a1), .unset, .unset] [(.int ((x0 &&& (2147483647 : Int32)) % (5 : Int32)))]))
        refine own_Goes.step (fun t k => XT.iconstV X9.here hx rfl (2 : Int32) (hb hby at_39) (by decide) k) ?_
        show own_Goes p e below s (own_F0 Z x0 x1 x2 x3 x4 n0 h0) room_1.cells room_1.slots (T9.setTop (mkF m 40 #[.val (.int x0), .val (.int x1), .val (.int x2), .val (.int x3), .val (.int x4), .val (.int ((x0 &&& (2147483647 : Int32)) % (5 : Int32))), .val (.ref a1), .unset, .unset] [(.int (2 : Int32)), (.int ((x0 &&& (2147483647 : Int32)) % (5 : Int32)))]))
        by_cases hc14 : (2 : Int32) < ((x0 &&& (2147483647 : Int32)) % (5 : Int32))
        · refine own_Goes.step (fun t k => XS.icmpNo X9.here hx rfl (hb hby at_40) rfl (XT.ii_le_f hc14) k) ?_
          show own_Goes p e below s (own_F0 Z x0 x1 x2 x3 x4 n0 h0) room_1.cells room_1.slots (T9.setTop (mkF m 43 #[.val (.int x0), .val (.int x1), .val (.int x2), .val (.int x3), .val (.int x4), .val (.int ((x0 &&& (2147483647 : Int32)) % (5 : Int32))), .val (.ref a1), .unset, .unset] []))
          refine own_Goes.step (fun t k => XS.aload X9.here hx rfl (hb hby at_43) rfl rfl k) ?_
          show own_Goes p e below s (own_F0 Z x0 x1 x2 x3 x4 n0 h0) room_1.cells room_1.slots (T9.setTop (mkF m 45 #[.val (.int x0), .val (.int x1), .val (.int x2), .val (.int x3), .val (.int x4), .val (.int ((x0 &&& (2147483647 : Int32)) % (5 : Int32))), .val (.ref a1), .unset, .unset] [(.ref a1)]))
          refine own_Goes.step (fun t k => XT.iconstV X9.here hx rfl (2 : Int32) (hb hby at_45) (by decide) k) ?_
          show own_Goes p e below s (own_F0 Z x0 x1 x2 x3 x4 n0 h0) room_1.cells room_1.slots (T9.setTop (mkF m 46 #[.val (.int x0), .val (.int x1), .val (.int x2), .val (.int x3), .val (.int x4), .val (.int ((x0 &&& (2147483647 : Int32)) % (5 : Int32))), .val (.ref a1), .unset, .unset] [(.int (2 : Int32)), (.ref a1)]))
          refine own_Goes.step (fun t k => XS.iloadN X9.here hx rfl (hb hby at_46) rfl k) ?_
          show own_Goes p e below s (own_F0 Z x0 x1 x2 x3 x4 n0 h0) room_1.cells room_1.slots (T9.setTop (mkF m 47 #[.val (.int x0), .val (.int x1), .val (.int x2), .val (.int x3), .val (.int x4), .val (.int ((x0 &&& (2147483647 : Int32)) % (5 : Int32))), .val (.ref a1), .unset, .unset] [(.int x3), (.int (2 : Int32)), (.ref a1)]))
          refine own_Goes.step (fun t k => XT.i2b X9.here hx rfl (hb hby at_47) rfl k) ?_
          show own_Goes p e below s (own_F0 Z x0 x1 x2 x3 x4 n0 h0) room_1.cells room_1.slots (T9.setTop (mkF m 48 #[.val (.int x0), .val (.int x1), .val (.int x2), .val (.int x3), .val (.int x4), .val (.int ((x0 &&& (2147483647 : Int32)) % (5 : Int32))), .val (.ref a1), .unset, .unset] [(.int x3.toInt8.toInt32), (.int (2 : Int32)), (.ref a1)]))
          obtain ⟨T15, h15, X15, e15, W15, st15⟩ := own_bast X9 hx hZ e9 f10 (i := 2) rfl (own_nin' (a := 2) rfl hc14) (g := (mkF m 48 #[.val (.int x0), .val (.int x1), .val (.int x2), .val (.int x3), .val (.int x4), .val (.int ((x0 &&& (2147483647 : Int32)) % (5 : Int32))), .val (.ref a1), .unset, .unset] [(.int x3.toInt8.toInt32), (.int (2 : Int32)), (.ref a1)])) rfl rfl (hb hby at_48)
          refine own_Goes.step st15 ?_
          have f16 : own_Ar Z h15 a1 .byte (own_n x0) (fun uu => .int ((own_f0_3 x0 x1 x2 x3 x4) uu)) := (f10.set W15).congr fun j _ => by dsimp only [own_f0_3]; exact (apply_ite Value.int _ _ _).symm
          have K17 := K11.wr W15 (Or.inr Kh1)
          have N18 := Fr.snoc X15 N12 ga1
          have Z19 : n0 ≤ h15.size := Nat.le_trans Z13 (Keep.of_wr W15).1
          show own_Goes p e below s (own_F0 Z x0 x1 x2 x3 x4 n0 h0) room_1.cells room_1.slots (T15.setTop (mkF m 49 #[.val (.int x0), .val (.int x1), .val (.int x2), .val (.int x3), .val (.int x4), .val (.int ((x0 &&& (2147483647 : Int32)) % (5 : Int32))), .val (.ref a1), .unset, .unset] []))
          refine own_Goes.step (fun t k => XS.iload X15.here hx rfl (hb hby at_49) rfl k) ?_
          show own_Goes p e below s (own_F0 Z x0 x1 x2 x3 x4 n0 h0) room_1.cells room_1.slots (T15.setTop (mkF m 51 #[.val (.int x0), .val (.int x1), .val (.int x2), .val (.int x3), .val (.int x4), .val (.int ((x0 &&& (2147483647 : Int32)) % (5 : Int32))), .val (.ref a1), .unset, .unset] [(.int ((x0 &&& (2147483647 : Int32)) % (5 : Int32)))]))
          refine own_Goes.step (fun t k => XT.iconstV X15.here hx rfl (3 : Int32) (hb hby at_51) (by decide) k) ?_
          show own_Goes p e below s (own_F0 Z x0 x1 x2 x3 x4 n0 h0) room_1.cells room_1.slots (T15.setTop (mkF m 52 #[.val (.int x0), .val (.int x1), .val (.int x2), .val (.int x3), .val (.int x4), .val (.int ((x0 &&& (2147483647 : Int32)) % (5 : Int32))), .val (.ref a1), .unset, .unset] [(.int (3 : Int32)), (.int ((x0 &&& (2147483647 : Int32)) % (5 : Int32)))]))
          by_cases hc20 : (3 : Int32) < ((x0 &&& (2147483647 : Int32)) % (5 : Int32))
          · refine own_Goes.step (fun t k => XS.icmpNo X15.here hx rfl (hb hby at_52) rfl (XT.ii_le_f hc20) k) ?_
            show own_Goes p e below s (own_F0 Z x0 x1 x2 x3 x4 n0 h0) room_1.cells room_1.slots (T15.setTop (mkF m 55 #[.val (.int x0), .val (.int x1), .val (.int x2), .val (.int x3), .val (.int x4), .val (.int ((x0 &&& (2147483647 : Int32)) % (5 : Int32))), .val (.ref a1), .unset, .unset] []))
            refine own_Goes.step (fun t k => XS.aload X15.here hx rfl (hb hby at_55) rfl rfl k) ?_
            show own_Goes p e below s (own_F0 Z x0 x1 x2 x3 x4 n0 h0) room_1.cells room_1.slots (T15.setTop (mkF m 57 #[.val (.int x0), .val (.int x1), .val (.int x2), .val (.int x3), .val (.int x4), .val (.int ((x0 &&& (2147483647 : Int32)) % (5 : Int32))), .val (.ref a1), .unset, .unset] [(.ref a1)]))
            refine own_Goes.step (fun t k => XT.iconstV X15.here hx rfl (3 : Int32) (hb hby at_57) (by decide) k) ?_
            show own_Goes p e below s (own_F0 Z x0 x1 x2 x3 x4 n0 h0) room_1.cells room_1.slots (T15.setTop (mkF m 58 #[.val (.int x0), .val (.int x1), .val (.int x2), .val (.int x3), .val (.int x4), .val (.int ((x0 &&& (2147483647 : Int32)) % (5 : Int32))), .val (.ref a1), .unset, .unset] [(.int (3 : Int32)), (.ref a1)]))
            refine own_Goes.step (fun t k => XS.iload X15.here hx rfl (hb hby at_58) rfl k) ?_
            show own_Goes p e below s (own_F0 Z x0 x1 x2 x3 x4 n0 h0) room_1.cells room_1.slots (T15.setTop (mkF m 60 #[.val (.int x0), .val (.int x1), .val (.int x2), .val (.int x3), .val (.int x4), .val (.int ((x0 &&& (2147483647 : Int32)) % (5 : Int32))), .val (.ref a1), .unset, .unset] [(.int x4), (.int (3 : Int32)), (.ref a1)]))
            refine own_Goes.step (fun t k => XT.i2b X15.here hx rfl (hb hby at_60) rfl k) ?_
            show own_Goes p e below s (own_F0 Z x0 x1 x2 x3 x4 n0 h0) room_1.cells room_1.slots (T15.setTop (mkF m 61 #[.val (.int x0), .val (.int x1), .val (.int x2), .val (.int x3), .val (.int x4), .val (.int ((x0 &&& (2147483647 : Int32)) % (5 : Int32))), .val (.ref a1), .unset, .unset] [(.int x4.toInt8.toInt32), (.int (3 : Int32)), (.ref a1)]))
            obtain ⟨T21, h21, X21, e21, W21, st21⟩ := own_bast X15 hx hZ e15 f16 (i := 3) rfl (own_nin' (a := 3) rfl hc20) (g := (mkF m 61 #[.val (.int x0), .val (.int x1), .val (.int x2), .val (.int x3), .val (.int x4), .val (.int ((x0 &&& (2147483647 : Int32)) % (5 : Int32))), .val (.ref a1), .unset, .unset] [(.int x4.toInt8.toInt32), (.int (3 : Int32)), (.ref a1)])) rfl rfl (hb hby at_61)
            refine own_Goes.step st21 ?_
            have f22 : own_Ar Z h21 a1 .byte (own_n x0) (fun uu => .int ((own_f0_4 x0 x1 x2 x3 x4) uu)) := (f16.set W21).congr fun j _ => by dsimp only [own_f0_4]; exact (apply_ite Value.int _ _ _).symm
            have K23 := K17.wr W21 (Or.inr Kh1)
            have N24 := Fr.snoc X21 N18 ga1
            have Z25 : n0 ≤ h21.size := Nat.le_trans Z19 (Keep.of_wr W21).1
            show own_Goes p e below s (own_F0 Z x0 x1 x2 x3 x4 n0 h0) room_1.cells room_1.slots (T21.setTop (mkF m 62 #[.val (.int x0), .val (.int x1), .val (.int x2), .val (.int x3), .val (.int x4), .val (.int ((x0 &&& (2147483647 : Int32)) % (5 : Int32))), .val (.ref a1), .unset, .unset] []))
            refine own_Goes.step (fun t k => X21.ldc2J hx hown (mvT hZ (hw _ (List.mem_of_getElem? (i := 2) rfl))) rfl (hb hby at_62) k) ?_
            show own_Goes p e below s (own_F0 Z x0 x1 x2 x3 x4 n0 h0) room_1.cells room_1.slots (T21.setTop (mkF m 65 #[.val (.int x0), .val (.int x1), .val (.int x2), .val (.int x3), .val (.int x4), .val (.int ((x0 &&& (2147483647 : Int32)) % (5 : Int32))), .val (.ref a1), .unset, .unset] [(.long (-3750763034362895579 : Int64))]))
            refine own_Goes.step (fun t k => XT.lstore X21.here hx rfl (hb hby at_65) rfl (l' := #[.val (.int x0), .val (.int x1), .val (.int x2), .val (.int x3), .val (.int x4), .val (.int ((x0 &&& (2147483647 : Int32)) % (5 : Int32))), .val (.ref a1), .val (.long (-3750763034362895579 : Int64)), .second]) rfl k) ?_
            show own_Goes p e below s (own_F0 Z x0 x1 x2 x3 x4 n0 h0) room_1.cells room_1.slots (T21.setTop (mkF m 67 #[.val (.int x0), .val (.int x1), .val (.int x2), .val (.int x3), .val (.int x4), .val (.int ((x0 &&& (2147483647 : Int32)) % (5 : Int32))), .val (.ref a1), .val (.long (-3750763034362895579 : Int64)), .second] []))
            refine own_Goes.step (fun t k => XT.lload X21.here hx rfl (hb hby at_67) rfl k) ?_
            show own_Goes p e below s (own_F0 Z x0 x1 x2 x3 x4 n0 h0) room_1.cells room_1.slots (T21.setTop (mkF m 69 #[.val (.int x0), .val (.int x1), .val (.int x2), .val (.int x3), .val (.int x4), .val (.int ((x0 &&& (2147483647 : Int32)) % (5 : Int32))), .val (.ref a1), .val (.long (-3750763034362895579 : Int64)), .second] [(.long (-3750763034362895579 : Int64))]))
            refine own_Goes.step (fun t k => XS.iloadN X21.here hx rfl (hb hby at_69) rfl k) ?_
            show own_Goes p e below s (own_F0 Z x0 x1 x2 x3 x4 n0 h0) room_1.cells room_1.slots (T21.setTop (mkF m 70 #[.val (.int x0), .val (.int x1), .val (.int x2), .val (.int x3), .val (.int x4), .val (.int ((x0 &&& (2147483647 : Int32)) % (5 : Int32))), .val (.ref a1), .val (.long (-3750763034362895579 : Int64)), .second] [(.int x1), (.long (-3750763034362895579 : Int64))]))
            refine own_Goes.step (fun t k => XS.iload X21.here hx rfl (hb hby at_70) rfl k) ?_
            show own_Goes p e below s (own_F0 Z x0 x1 x2 x3 x4 n0 h0) room_1.cells room_1.slots (T21.setTop (mkF m 72 #[.val (.int x0), .val (.int x1), .val (.int x2), .val (.int x3), .val (.int x4), .val (.int ((x0 &&& (2147483647 : Int32)) % (5 : Int32))), .val (.ref a1), .val (.long (-3750763034362895579 : Int64)), .second] [(.int ((x0 &&& (2147483647 : Int32)) % (5 : Int32))), (.int x1), (.long (-3750763034362895579 : Int64))]))
            refine own_Goes.step (fun t k => XS.ifNo X21.here hx rfl (hb hby at_72) rfl (XT.i0_le_f (hc2)) k) ?_
            show own_Goes p e below s (own_F0 Z x0 x1 x2 x3 x4 n0 h0) room_1.cells room_1.slots (T21.setTop (mkF m 75 #[.val (.int x0), .val (.int x1), .val (.int x2), .val (.int x3), .val (.int x4), .val (.int ((x0 &&& (2147483647 : Int32)) % (5 : Int32))), .val (.ref a1), .val (.long (-3750763034362895579 : Int64)), .second] [(.int x1), (.long (-3750763034362895579 : Int64))]))
            refine own_Goes.step (fun t k => XT.iconstV X21.here hx rfl (1 : Int32) (hb hby at_75) (by decide) k) ?_
            show own_Goes p e below s (own_F0 Z x0 x1 x2 x3 x4 n0 h0) room_1.cells room_1.slots (T21.setTop (mkF m 76 #[.val (.int x0), .val (.int x1), .val (.int x2), .val (.int x3), .val (.int x4), .val (.int ((x0 &&& (2147483647 : Int32)) % (5 : Int32))), .val (.ref a1), .val (.long (-3750763034362895579 : Int64)), .second] [(.int (1 : Int32)), (.int x1), (.long (-3750763034362895579 : Int64))]))
            refine own_Goes.step (fun t k => XS.goto X21.here hx rfl (pc0 := 76) (pc' := 80) rfl (hb hby at_76) (by decide) (by decide) k) ?_
            show own_Goes p e below s (own_F0 Z x0 x1 x2 x3 x4 n0 h0) room_1.cells room_1.slots (T21.setTop (mkF m 80 #[.val (.int x0), .val (.int x1), .val (.int x2), .val (.int x3), .val (.int x4), .val (.int ((x0 &&& (2147483647 : Int32)) % (5 : Int32))), .val (.ref a1), .val (.long (-3750763034362895579 : Int64)), .second] [(.int (1 : Int32)), (.int x1), (.long (-3750763034362895579 : Int64))]))
            obtain ⟨w26, T26, L26, q26, Y26, st26⟩ := own_stat X21 hx hZ e21 hown (hw _ (List.mem_of_getElem? (i := 3) rfl)) (hw _ (List.mem_of_getElem? (i := 4) rfl)) (hw _ (List.mem_of_getElem? (i := 5) rfl)) (hw _ (List.mem_of_getElem? (i := 6) rfl)) (by decide) (own_m1 l Z a0 hw [] (-3750763034362895579 : Int64) x1 (1 : Int32) h21 ) (by decide) (W := 0) (by decide) (by decide) (by decide) (g := (mkF m 80 #[.val (.int x0), .val (.int x1), .val (.int x2), .val (.int x3), .val (.int x4), .val (.int ((x0 &&& (2147483647 : Int32)) % (5 : Int32))), .val (.ref a1), .val (.long (-3750763034362895579 : Int64)), .second] [(.int (1 : Int32)), (.int x1), (.long (-3750763034362895579 : Int64))])) rfl (by rw [hml]; rfl) (argsL := [(.long (-3750763034362895579 : Int64)), (.int x1), (.int (1 : Int32))]) (rest := []) (lenOf pd_1 rfl) rfl (by show 2 * 0 + _ ≤ _; exact Nat.le_of_eq rfl) (hb hby at_80)
            obtain ⟨e26, X26⟩ := own_clean q26 Y26 rfl rfl
            obtain ⟨rfl, -, -⟩ := q26
            refine own_Goes.step st26 ?_
            show own_Goes p e below s (own_F0 Z x0 x1 x2 x3 x4 n0 h0) room_1.cells room_1.slots (T26.setTop (mkF m 83 #[.val (.int x0), .val (.int x1), .val (.int x2), .val (.int x3), .val (.int x4), .val (.int ((x0 &&& (2147483647 : Int32)) % (5 : Int32))), .val (.ref a1), .val (.long (-3750763034362895579 : Int64)), .second] [(.long (own_f1 (-3750763034362895579 : Int64) x1 (1 : Int32)))]))
            refine own_Goes.step (fun t k => XT.lstore X26.here hx rfl (hb hby at_83) rfl (l' := #[.val (.int x0), .val (.int x1), .val (.int x2), .val (.int x3), .val (.int x4), .val (.int ((x0 &&& (2147483647 : Int32)) % (5 : Int32))), .val (.ref a1), .val (.long (own_f1 (-3750763034362895579 : Int64) x1 (1 : Int32))), .second]) rfl k) ?_
            show own_Goes p e below s (own_F0 Z x0 x1 x2 x3 x4 n0 h0) room_1.cells room_1.slots (T26.setTop (mkF m 85 #[.val (.int x0), .val (.int x1), .val (.int x2), .val (.int x3), .val (.int x4), .val (.int ((x0 &&& (2147483647 : Int32)) % (5 : Int32))), .val (.ref a1), .val (.long (own_f1 (-3750763034362895579 : Int64) x1 (1 : Int32))), .second] []))
            refine own_Goes.step (fun t k => XT.lload X26.here hx rfl (hb hby at_85) rfl k) ?_
            show own_Goes p e below s (own_F0 Z x0 x1 x2 x3 x4 n0 h0) room_1.cells room_1.slots (T26.setTop (mkF m 87 #[.val (.int x0), .val (.int x1), .val (.int x2), .val (.int x3), .val (.int x4), .val (.int ((x0 &&& (2147483647 : Int32)) % (5 : Int32))), .val (.ref a1), .val (.long (own_f1 (-3750763034362895579 : Int64) x1 (1 : Int32))), .second] [(.long (own_f1 (-3750763034362895579 : Int64) x1 (1 : Int32)))]))
            refine own_Goes.step (fun t k => XS.iloadN X26.here hx rfl (hb hby at_87) rfl k) ?_
            show own_Goes p e below s (own_F0 Z x0 x1 x2 x3 x4 n0 h0) room_1.cells room_1.slots (T26.setTop (mkF m 88 #[.val (.int x0), .val (.int x1), .val (.int x2), .val (.int x3), .val (.int x4), .val (.int ((x0 &&& (2147483647 : Int32)) % (5 : Int32))), .val (.ref a1), .val (.long (own_f1 (-3750763034362895579 : Int64) x1 (1 : Int32))), .second] [(.int x2), (.long (own_f1 (-3750763034362895579 : Int64) x1 (1 : Int32)))]))
            refine own_Goes.step (fun t k => XS.iload X26.here hx rfl (hb hby at_88) rfl k) ?_
            show own_Goes p e below s (own_F0 Z x0 x1 x2 x3 x4 n0 h0) room_1.cells room_1.slots (T26.setTop (mkF m 90 #[.val (.int x0), .val (.int x1), .val (.int x2), .val (.int x3), .val (.int x4), .val (.int ((x0 &&& (2147483647 : Int32)) % (5 : Int32))), .val (.ref a1), .val (.long (own_f1 (-3750763034362895579 : Int64) x1 (1 : Int32))), .second] [(.int ((x0 &&& (2147483647 : Int32)) % (5 : Int32))), (.int x2), (.long (own_f1 (-3750763034362895579 : Int64) x1 (1 : Int32)))]))
            refine own_Goes.step (fun t k => XT.iconstV X26.here hx rfl (1 : Int32) (hb hby at_90) (by decide) k) ?_
            show own_Goes p e below s (own_F0 Z x0 x1 x2 x3 x4 n0 h0) room_1.cells room_1.slots (T26.setTop (mkF m 91 #[.val (.int x0), .val (.int x1), .val (.int x2), .val (.int x3), .val (.int x4), .val (.int ((x0 &&& (2147483647 : Int32)) % (5 : Int32))), .val (.ref a1), .val (.long (own_f1 (-3750763034362895579 : Int64) x1 (1 : Int32))), .second] [(.int (1 : Int32)), (.int ((x0 &&& (2147483647 : Int32)) % (5 : Int32))), (.int x2), (.long (own_f1 (-3750763034362895579 : Int64) x1 (1 : Int32)))]))
            refine own_Goes.step (fun t k => XS.icmpNo X26.here hx rfl (hb hby at_91) rfl (XT.ii_le_f (hc8)) k) ?_
            show own_Goes p e below s (own_F0 Z x0 x1 x2 x3 x4 n0 h0) room_1.cells room_1.slots (T26.setTop (mkF m 94 #[.val (.int x0), .val (.int x1), .val (.int x2), .val (.int x3), .val (.int x4), .val (.int ((x0 &&& (2147483647 : Int32)) % (5 : Int32))), .val (.ref a1), .val (.long (own_f1 (-3750763034362895579 : Int64) x1 (1 : Int32))), .second] [(.int x2), (.long (own_f1 (-3750763034362895579 : Int64) x1 (1 : Int32)))]))
            refine own_Goes.step (fun t k => XT.iconstV X26.here hx rfl (1 : Int32) (hb hby at_94) (by decide) k) ?_
            show own_Goes p e below s (own_F0 Z x0 x1 x2 x3 x4 n0 h0) room_1.cells room_1.slots (T26.setTop (mkF m 95 #[.val (.int x0), .val (.int x1), .val (.int x2), .val (.int x3), .val (.int x4), .val (.int ((x0 &&& (2147483647 : Int32)) % (5 : Int32))), .val (.ref a1), .val (.long (own_f1 (-3750763034362895579 : Int64) x1 (1 : Int32))), .second] [(.int (1 : Int32)), (.int x2), (.long (own_f1 (-3750763034362895579 : Int64) x1 (1 : Int32)))]))
            refine own_Goes.step (fun t k => XS.goto X26.here hx rfl (pc0 := 95) (pc' := 99) rfl (hb hby at_95) (by decide) (by decide) k) ?_
            show own_Goes p e below s (own_F0 Z x0 x1 x2 x3 x4 n0 h0) room_1.cells room_1.slots (T26.setTop (mkF m 99 #[.val (.int x0), .val (.int x1), .val (.int x2), .val (.int x3), .val (.int x4), .val (.int ((x0 &&& (2147483647 : Int32)) % (5 : Int32))), .val (.ref a1), .val (.long (own_f1 (-3750763034362895579 : Int64) x1 (1 : Int32))), .second] [(.int (1 : Int32)), (.int x2), (.long (own_f1 (-3750763034362895579 : Int64) x1 (1 : Int32)))]))
            obtain ⟨w27, T27, L27, q27, Y27, st27⟩ := own_stat X26 hx hZ e26 hown (hw _ (List.mem_of_getElem? (i := 3) rfl)) (hw _ (List.mem_of_getElem? (i := 4) rfl)) (hw _ (List.mem_of_getElem? (i := 5) rfl)) (hw _ (List.mem_of_getElem? (i := 6) rfl)) (by decide) (own_m1 l Z a0 hw [] (own_f1 (-3750763034362895579 : Int64) x1 (1 : Int32)) x2 (1 : Int32) h21 ) (by decide) (W := 0) (by decide) (by decide) (by decide) (g := (mkF m 99 #[.val (.int x0), .val (.int x1), .val (.int x2), .val (.int x3), .val (.int x4), .val (.int ((x0 &&& (2147483647 : Int32)) % (5 : Int32))), .val (.ref a1), .val (.long (own_f1 (-3750763034362895579 : Int64) x1 (1 : Int32))), .second] [(.int (1 : Int32)), (.int x2), (.long (own_f1 (-3750763034362895579 : Int64) x1 (1 : Int32)))])) rfl (by rw [hml]; rfl) (argsL := [(.long (own_f1 (-3750763034362895579 : Int64) x1 (1 : Int32))), (.int x2), (.int (1 : Int32))]) (rest := []) (lenOf pd_1 rfl) rfl (by show 2 * 0 + _ ≤ _; exact Nat.le_of_eq rfl) (hb hby at_99)
            obtain ⟨e27, X27⟩ := own_clean q27 Y27 rfl rfl
            obtain ⟨rfl, -, -⟩ := q27
            refine own_Goes.step st27 ?_
            show own_Goes p e below s (own_F0 Z x0 x1 x2 x3 x4 n0 h0) room_1.cells room_1.slots (T27.setTop (mkF m 102 #[.val (.int x0), .val (.int x1), .val (.int x2), .val (.int x3), .val (.int x4), .val (.int ((x0 &&& (2147483647 : Int32)) % (5 : Int32))), .val (.ref a1), .val (.long (own_f1 (-3750763034362895579 : Int64) x1 (1 : Int32))), .second] [(.long (own_f1 (own_f1 (-3750763034362895579 : Int64) x1 (1 : Int32)) x2 (1 : Int32)))]))
            refine own_Goes.step (fun t k => XT.lstore X27.here hx rfl (hb hby at_102) rfl (l' := #[.val (.int x0), .val (.int x1), .val (.int x2), .val (.int x3), .val (.int x4), .val (.int ((x0 &&& (2147483647 : Int32)) % (5 : Int32))), .val (.ref a1), .val (.long (own_f0_5 x0 x1 x2 x3 x4)), .second]) rfl k) ?_
            show own_Goes p e below s (own_F0 Z x0 x1 x2 x3 x4 n0 h0) room_1.cells room_1.slots (T27.setTop (mkF m 104 #[.val (.int x0), .val (.int x1), .val (.int x2), .val (.int x3), .val (.int x4), .val (.int ((x0 &&& (2147483647 : Int32)) % (5 : Int32))), .val (.ref a1), .val (.long (own_f0_5 x0 x1 x2 x3 x4)), .second] []))
            refine own_Goes.step (fun t k => XT.lload X27.here hx rfl (hb hby at_104) rfl k) ?_
            show own_Goes p e below s (own_F0 Z x0 x1 x2 x3 x4 n0 h0) room_1.cells room_1.slots (T27.setTop (mkF m 106 #[.val (.int x0), .val (.int x1), .val (.int x2), .val (.int x3), .val (.int x4), .val (.int ((x0 &&& (2147483647 : Int32)) % (5 : Int32))), .val (.ref a1), .val (.long (own_f0_5 x0 x1 x2 x3 x4)), .second] [(.long (own_f0_5 x0 x1 x2 x3 x4))]))
            refine own_Goes.step (fun t k => XS.iloadN X27.here hx rfl (hb hby at_106) rfl k) ?_
            show own_Goes p e below s (own_F0 Z x0 x1 x2 x3 x4 n0 h0) room_1.cells room_1.slots (T27.setTop (mkF m 107 #[.val (.int x0), .val (.int x1), .val (.int x2), .val (.int x3), .val (.int x4), .val (.int ((x0 &&& (2147483647 : Int32)) % (5 : Int32))), .val (.ref a1), .val (.long (own_f0_5 x0 x1 x2 x3 x4)), .second] [(.int x3), (.long (own_f0_5 x0 x1 x2 x3 x4))]))
            refine own_Goes.step (fun t k => XS.iload X27.here hx rfl (hb hby at_107) rfl k) ?_
            show own_Goes p e below s (own_F0 Z x0 x1 x2 x3 x4 n0 h0) room_1.cells room_1.slots (T27.setTop (mkF m 109 #[.val (.int x0), .val (.int x1), .val (.int x2), .val (.int x3), .val (.int x4), .val (.int ((x0 &&& (2147483647 : Int32)) % (5 : Int32))), .val (.ref a1), .val (.long (own_f0_5 x0 x1 x2 x3 x4)), .second] [(.int ((x0 &&& (2147483647 : Int32)) % (5 : Int32))), (.int x3), (.long (own_f0_5 x0 x1 x2 x3 x4))]))
            refine own_Goes.step (fun t k => XT.iconstV X27.here hx rfl (2 : Int32) (hb hby at_109) (by decide) k) ?_
            show own_Goes p e below s (own_F0 Z x0 x1 x2 x3 x4 n0 h0) room_1.cells room_1.slots (T27.setTop (mkF m 110 #[.val (.int x0), .val (.int x1), .val (.int x2), .val (.int x3), .val (.int x4), .val (.int ((x0 &&& (2147483647 : Int32)) % (5 : Int32))), .val (.ref a1), .val (.long (own_f0_5 x0 x1 x2 x3 x4)), .second] [(.int (2 : Int32)), (.int ((x0 &&& (2147483647 : Int32)) % (5 : Int32))), (.int x3), (.long (own_f0_5 x0 x1 x2 x3 x4))]))
            refine own_Goes.step (fun t k => XS.icmpNo X27.here hx rfl (hb hby at_110) rfl (XT.ii_le_f (hc14)) k) ?_
            show own_Goes p e below s (own_F0 Z x0 x1 x2 x3 x4 n0 h0) room_1.cells room_1.slots (T27.setTop (mkF m 113 #[.val (.int x0), .val (.int x1), .val (.int x2), .val (.int x3), .val (.int x4), .val (.int ((x0 &&& (2147483647 : Int32)) % (5 : Int32))), .val (.ref a1), .val (.long (own_f0_5 x0 x1 x2 x3 x4)), .second] [(.int x3), (.long (own_f0_5 x0 x1 x2 x3 x4))]))
            refine own_Goes.step (fun t k => XT.iconstV X27.here hx rfl (1 : Int32) (hb hby at_113) (by decide) k) ?_
            show own_Goes p e below s (own_F0 Z x0 x1 x2 x3 x4 n0 h0) room_1.cells room_1.slots (T27.setTop (mkF m 114 #[.val (.int x0), .val (.int x1), .val (.int x2), .val (.int x3), .val (.int x4), .val (.int ((x0 &&& (2147483647 : Int32)) % (5 : Int32))), .val (.ref a1), .val (.long (own_f0_5 x0 x1 x2 x3 x4)), .second] [(.int (1 : Int32)), (.int x3), (.long (own_f0_5 x0 x1 x2 x3 x4))]))
            refine own_Goes.step (fun t k => XS.goto X27.here hx rfl (pc0 := 114) (pc' := 118) rfl (hb hby at_114) (by decide) (by decide) k) ?_
            show own_Goes p e below s (own_F0 Z x0 x1 x2 x3 x4 n0 h0) room_1.cells room_1.slots (T27.setTop (mkF m 118 #[.val (.int x0), .val (.int x1), .val (.int x2), .val (.int x3), .val (.int x4), .val (.int ((x0 &&& (2147483647 : Int32)) % (5 : Int32))), .val (.ref a1), .val (.long (own_f0_5 x0 x1 x2 x3 x4)), .second] [(.int (1 : Int32)), (.int x3), (.long (own_f0_5 x0 x1 x2 x3 x4))]))
            obtain ⟨w28, T28, L28, q28, Y28, st28⟩ := own_stat X27 hx hZ e27 hown (hw _ (List.mem_of_getElem? (i := 3) rfl)) (hw _ (List.mem_of_getElem? (i := 4) rfl)) (hw _ (List.mem_of_getElem? (i := 5) rfl)) (hw _ (List.mem_of_getElem? (i := 6) rfl)) (by decide) (own_m1 l Z a0 hw [] (own_f0_5 x0 x1 x2 x3 x4) x3 (1 : Int32) h21 ) (by decide) (W := 0) (by decide) (by decide) (by decide) (g := (mkF m 118 #[.val (.int x0), .val (.int x1), .val (.int x2), .val (.int x3), .val (.int x4), .val (.int ((x0 &&& (2147483647 : Int32)) % (5 : Int32))), .val (.ref a1), .val (.long (own_f0_5 x0 x1 x2 x3 x4)), .second] [(.int (1 : Int32)), (.int x3), (.long (own_f0_5 x0 x1 x2 x3 x4))])) rfl (by rw [hml]; rfl) (argsL := [(.long (own_f0_5 x0 x1 x2 x3 x4)), (.int x3), (.int (1 : Int32))]) (rest := []) (lenOf pd_1 rfl) rfl (by show 2 * 0 + _ ≤ _; exact Nat.le_of_eq rfl) (hb hby at_118)
            obtain ⟨e28, X28⟩ := own_clean q28 Y28 rfl rfl
            obtain ⟨rfl, -, -⟩ := q28
            refine own_Goes.step st28 ?_
            show own_Goes p e below s (own_F0 Z x0 x1 x2 x3 x4 n0 h0) room_1.cells room_1.slots (T28.setTop (mkF m 121 #[.val (.int x0), .val (.int x1), .val (.int x2), .val (.int x3), .val (.int x4), .val (.int ((x0 &&& (2147483647 : Int32)) % (5 : Int32))), .val (.ref a1), .val (.long (own_f0_5 x0 x1 x2 x3 x4)), .second] [(.long (own_f1 (own_f0_5 x0 x1 x2 x3 x4) x3 (1 : Int32)))]))
            refine own_Goes.step (fun t k => XT.lstore X28.here hx rfl (hb hby at_121) rfl (l' := #[.val (.int x0), .val (.int x1), .val (.int x2), .val (.int x3), .val (.int x4), .val (.int ((x0 &&& (2147483647 : Int32)) % (5 : Int32))), .val (.ref a1), .val (.long (own_f1 (own_f0_5 x0 x1 x2 x3 x4) x3 (1 : Int32))), .second]) rfl k) ?_
            show own_Goes p e below s (own_F0 Z x0 x1 x2 x3 x4 n0 h0) room_1.cells room_1.slots (T28.setTop (mkF m 123 #[.val (.int x0), .val (.int x1), .val (.int x2), .val (.int x3), .val (.int x4), .val (.int ((x0 &&& (2147483647 : Int32)) % (5 : Int32))), .val (.ref a1), .val (.long (own_f1 (own_f0_5 x0 x1 x2 x3 x4) x3 (1 : Int32))), .second] []))
            refine own_Goes.step (fun t k => XT.lload X28.here hx rfl (hb hby at_123) rfl k) ?_
            show own_Goes p e below s (own_F0 Z x0 x1 x2 x3 x4 n0 h0) room_1.cells room_1.slots (T28.setTop (mkF m 125 #[.val (.int x0), .val (.int x1), .val (.int x2), .val (.int x3), .val (.int x4), .val (.int ((x0 &&& (2147483647 : Int32)) % (5 : Int32))), .val (.ref a1), .val (.long (own_f1 (own_f0_5 x0 x1 x2 x3 x4) x3 (1 : Int32))), .second] [(.long (own_f1 (own_f0_5 x0 x1 x2 x3 x4) x3 (1 : Int32)))]))
            refine own_Goes.step (fun t k => XS.iload X28.here hx rfl (hb hby at_125) rfl k) ?_
            show own_Goes p e below s (own_F0 Z x0 x1 x2 x3 x4 n0 h0) room_1.cells room_1.slots (T28.setTop (mkF m 127 #[.val (.int x0), .val (.int x1), .val (.int x2), .val (.int x3), .val (.int x4), .val (.int ((x0 &&& (2147483647 : Int32)) % (5 : Int32))), .val (.ref a1), .val (.long (own_f1 (own_f0_5 x0 x1 x2 x3 x4) x3 (1 : Int32))), .second] [(.int x4), (.long (own_f1 (own_f0_5 x0 x1 x2 x3 x4) x3 (1 : Int32)))]))
            refine own_Goes.step (fun t k => XS.iload X28.here hx rfl (hb hby at_127) rfl k) ?_
            show own_Goes p e below s (own_F0 Z x0 x1 x2 x3 x4 n0 h0) room_1.cells room_1.slots (T28.setTop (mkF m 129 #[.val (.int x0), .val (.int x1), .val (.int x2), .val (.int x3), .val (.int x4), .val (.int ((x0 &&& (2147483647 : Int32)) % (5 : Int32))), .val (.ref a1), .val (.long (own_f1 (own_f0_5 x0 x1 x2 x3 x4) x3 (1 : Int32))), .second] [(.int ((x0 &&& (2147483647 : Int32)) % (5 : Int32))), (.int x4), (.long (own_f1 (own_f0_5 x0 x1 x2 x3 x4) x3 (1 : Int32)))]))
            refine own_Goes.step (fun t k => XT.iconstV X28.here hx rfl (3 : Int32) (hb hby at_129) (by decide) k) ?_
            show own_Goes p e below s (own_F0 Z x0 x1 x2 x3 x4 n0 h0) room_1.cells room_1.slots (T28.setTop (mkF m 130 #[.val (.int x0), .val (.int x1), .val (.int x2), .val (.int x3), .val (.int x4), .val (.int ((x0 &&& (2147483647 : Int32)) % (5 : Int32))), .val (.ref a1), .val (.long (own_f1 (own_f0_5 x0 x1 x2 x3 x4) x3 (1 : Int32))), .second] [(.int (3 : Int32)), (.int ((x0 &&& (2147483647 : Int32)) % (5 : Int32))), (.int x4), (.long (own_f1 (own_f0_5 x0 x1 x2 x3 x4) x3 (1 : Int32)))]))
            refine own_Goes.step (fun t k => XS.icmpNo X28.here hx rfl (hb hby at_130) rfl (XT.ii_le_f (hc20)) k) ?_
            show own_Goes p e below s (own_F0 Z x0 x1 x2 x3 x4 n0 h0) room_1.cells room_1.slots (T28.setTop (mkF m 133 #[.val (.int x0), .val (.int x1), .val (.int x2), .val (.int x3), .val (.int x4), .val (.int ((x0 &&& (2147483647 : Int32)) % (5 : Int32))), .val (.ref a1), .val (.long (own_f1 (own_f0_5 x0 x1 x2 x3 x4) x3 (1 : Int32))), .second] [(.int x4), (.long (own_f1 (own_f0_5 x0 x1 x2 x3 x4) x3 (1 : Int32)))]))
            refine own_Goes.step (fun t k => XT.iconstV X28.here hx rfl (1 : Int32) (hb hby at_133) (by decide) k) ?_
            show own_Goes p e below s (own_F0 Z x0 x1 x2 x3 x4 n0 h0) room_1.cells room_1.slots (T28.setTop (mkF m 134 #[.val (.int x0), .val (.int x1), .val (.int x2), .val (.int x3), .val (.int x4), .val (.int ((x0 &&& (2147483647 : Int32)) % (5 : Int32))), .val (.ref a1), .val (.long (own_f1 (own_f0_5 x0 x1 x2 x3 x4) x3 (1 : Int32))), .second] [(.int (1 : Int32)), (.int x4), (.long (own_f1 (own_f0_5 x0 x1 x2 x3 x4) x3 (1 : Int32)))]))
            refine own_Goes.step (fun t k => XS.goto X28.here hx rfl (pc0 := 134) (pc' := 138) rfl (hb hby at_134) (by decide) (by decide) k) ?_
            show own_Goes p e below s (own_F0 Z x0 x1 x2 x3 x4 n0 h0) room_1.cells room_1.slots (T28.setTop (mkF m 138 #[.val (.int x0), .val (.int x1), .val (.int x2), .val (.int x3), .val (.int x4), .val (.int ((x0 &&& (2147483647 : Int32)) % (5 : Int32))), .val (.ref a1), .val (.long (own_f1 (own_f0_5 x0 x1 x2 x3 x4) x3 (1 : Int32))), .second] [(.int (1 : Int32)), (.int x4), (.long (own_f1 (own_f0_5 x0 x1 x2 x3 x4) x3 (1 : Int32)))]))
            obtain ⟨w29, T29, L29, q29, Y29, st29⟩ := own_stat X28 hx hZ e28 hown (hw _ (List.mem_of_getElem? (i := 3) rfl)) (hw _ (List.mem_of_getElem? (i := 4) rfl)) (hw _ (List.mem_of_getElem? (i := 5) rfl)) (hw _ (List.mem_of_getElem? (i := 6) rfl)) (by decide) (own_m1 l Z a0 hw [] (own_f1 (own_f0_5 x0 x1 x2 x3 x4) x3 (1 : Int32)) x4 (1 : Int32) h21 ) (by decide) (W := 0) (by decide) (by decide) (by decide) (g := (mkF m 138 #[.val (.int x0), .val (.int x1), .val (.int x2), .val (.int x3), .val (.int x4), .val (.int ((x0 &&& (2147483647 : Int32)) % (5 : Int32))), .val (.ref a1), .val (.long (own_f1 (own_f0_5 x0 x1 x2 x3 x4) x3 (1 : Int32))), .second] [(.int (1 : Int32)), (.int x4), (.long (own_f1 (own_f0_5 x0 x1 x2 x3 x4) x3 (1 : Int32)))])) rfl (by rw [hml]; rfl) (argsL := [(.long (own_f1 (own_f0_5 x0 x1 x2 x3 x4) x3 (1 : Int32))), (.int x4), (.int (1 : Int32))]) (rest := []) (lenOf pd_1 rfl) rfl (by show 2 * 0 + _ ≤ _; exact Nat.le_of_eq rfl) (hb hby at_138)
            obtain ⟨e29, X29⟩ := own_clean q29 Y29 rfl rfl
            obtain ⟨rfl, -, -⟩ := q29
            refine own_Goes.step st29 ?_
            show own_Goes p e below s (own_F0 Z x0 x1 x2 x3 x4 n0 h0) room_1.cells room_1.slots (T29.setTop (mkF m 141 #[.val (.int x0), .val (.int x1), .val (.int x2), .val (.int x3), .val (.int x4), .val (.int ((x0 &&& (2147483647 : Int32)) % (5 : Int32))), .val (.ref a1), .val (.long (own_f1 (own_f0_5 x0 x1 x2 x3 x4) x3 (1 : Int32))), .second] [(.long (own_f1 (own_f1 (own_f0_5 x0 x1 x2 x3 x4) x3 (1 : Int32)) x4 (1 : Int32)))]))
            refine own_Goes.step (fun t k => XT.lstore X29.here hx rfl (hb hby at_141) rfl (l' := #[.val (.int x0), .val (.int x1), .val (.int x2), .val (.int x3), .val (.int x4), .val (.int ((x0 &&& (2147483647 : Int32)) % (5 : Int32))), .val (.ref a1), .val (.long (own_f0_6 x0 x1 x2 x3 x4)), .second]) rfl k) ?_
            show own_Goes p e below s (own_F0 Z x0 x1 x2 x3 x4 n0 h0) room_1.cells room_1.slots (T29.setTop (mkF m 143 #[.val (.int x0), .val (.int x1), .val (.int x2), .val (.int x3), .val (.int x4), .val (.int ((x0 &&& (2147483647 : Int32)) % (5 : Int32))), .val (.ref a1), .val (.long (own_f0_6 x0 x1 x2 x3 x4)), .second] []))
            refine own_Goes.step (fun t k => XS.aload X29.here hx rfl (hb hby at_143) rfl rfl k) ?_
            show own_Goes p e below s (own_F0 Z x0 x1 x2 x3 x4 n0 h0) room_1.cells room_1.slots (T29.setTop (mkF m 145 #[.val (.int x0), .val (.int x1), .val (.int x2), .val (.int x3), .val (.int x4), .val (.int ((x0 &&& (2147483647 : Int32)) % (5 : Int32))), .val (.ref a1), .val (.long (own_f0_6 x0 x1 x2 x3 x4)), .second] [(.ref a1)]))
            obtain ⟨w30, T30, L30, q30, Y30, st30⟩ := own_stat X29 hx hZ e29 hown (hw _ (List.mem_of_getElem? (i := 7) rfl)) (hw _ (List.mem_of_getElem? (i := 8) rfl)) (hw _ (List.mem_of_getElem? (i := 9) rfl)) (hw _ (List.mem_of_getElem? (i := 10) rfl)) (by decide) (own_m2 l Z a0 hw [] a1 (own_n x0) (own_f0_4 x0 x1 x2 x3 x4) n0 h21 f22 (Nat.lt_of_le_of_lt (own_n4 x0) (by decide))) (by decide) (W := 0) (by decide) (by decide) (by decide) (g := (mkF m 145 #[.val (.int x0), .val (.int x1), .val (.int x2), .val (.int x3), .val (.int x4), .val (.int ((x0 &&& (2147483647 : Int32)) % (5 : Int32))), .val (.ref a1), .val (.long (own_f0_6 x0 x1 x2 x3 x4)), .second] [(.ref a1)])) rfl (by rw [hml]; rfl) (argsL := [(.ref a1)]) (rest := []) (lenOf pd_2 rfl) rfl (by show 2 * 0 + _ ≤ _; exact Nat.le_of_eq rfl) (hb hby at_145)
            obtain ⟨e30, X30⟩ := own_clean q30 Y30 rfl rfl
            obtain ⟨rfl, -, -⟩ := q30
            refine own_Goes.step st30 ?_
            show own_Goes p e below s (own_F0 Z x0 x1 x2 x3 x4 n0 h0) room_1.cells room_1.slots (T30.setTop (mkF m 148 #[.val (.int x0), .val (.int x1), .val (.int x2), .val (.int x3), .val (.int x4), .val (.int ((x0 &&& (2147483647 : Int32)) % (5 : Int32))), .val (.ref a1), .val (.long (own_f0_6 x0 x1 x2 x3 x4)), .second] [(.long (own_hash (own_f0_4 x0 x1 x2 x3 x4) (own_n x0)))]))
            refine own_Goes.step (fun t k => XT.lload X30.here hx rfl (hb hby at_148) rfl k) ?_
            show own_Goes p e below s (own_F0 Z x0 x1 x2 x3 x4 n0 h0) room_1.cells room_1.slots (T30.setTop (mkF m 150 #[.val (.int x0), .val (.int x1), .val (.int x2), .val (.int x3), .val (.int x4), .val (.int ((x0 &&& (2147483647 : Int32)) % (5 : Int32))), .val (.ref a1), .val (.long (own_f0_6 x0 x1 x2 x3 x4)), .second] [(.long (own_f0_6 x0 x1 x2 x3 x4)), (.long (own_hash (own_f0_4 x0 x1 x2 x3 x4) (own_n x0)))]))
            obtain ⟨w31, T31, L31, q31, Y31, st31⟩ := own_stat X30 hx hZ e30 hown (hw _ (List.mem_of_getElem? (i := 14) rfl)) (hw _ (List.mem_of_getElem? (i := 15) rfl)) (hw _ (List.mem_of_getElem? (i := 5) rfl)) (hw _ (List.mem_of_getElem? (i := 16) rfl)) (by decide) (own_m3 l Z a0 hw [] (own_f0_6 x0 x1 x2 x3 x4) h21 ) (by decide) (W := 2) (by decide) (by decide) (by decide) (g := (mkF m 150 #[.val (.int x0), .val (.int x1), .val (.int x2), .val (.int x3), .val (.int x4), .val (.int ((x0 &&& (2147483647 : Int32)) % (5 : Int32))), .val (.ref a1), .val (.long (own_f0_6 x0 x1 x2 x3 x4)), .second] [(.long (own_f0_6 x0 x1 x2 x3 x4)), (.long (own_hash (own_f0_4 x0 x1 x2 x3 x4) (own_n x0)))])) rfl (by rw [hml]; rfl) (argsL := [(.long (own_f0_6 x0 x1 x2 x3 x4))]) (rest := [(.long (own_hash (own_f0_4 x0 x1 x2 x3 x4) (own_n x0)))]) (lenOf pd_3 rfl) rfl (by show 2 * 0 + _ ≤ _; exact Nat.le_of_eq rfl) (hb hby at_150)
            obtain ⟨e31, X31⟩ := own_clean q31 Y31 rfl rfl
            obtain ⟨rfl, -, -⟩ := q31
            refine own_Goes.step st31 ?_
            show own_Goes p e below s (own_F0 Z x0 x1 x2 x3 x4 n0 h0) room_1.cells room_1.slots (T31.setTop (mkF m 153 #[.val (.int x0), .val (.int x1), .val (.int x2), .val (.int x3), .val (.int x4), .val (.int ((x0 &&& (2147483647 : Int32)) % (5 : Int32))), .val (.ref a1), .val (.long (own_f0_6 x0 x1 x2 x3 x4)), .second] [(.long (own_f3 (own_f0_6 x0 x1 x2 x3 x4))), (.long (own_hash (own_f0_4 x0 x1 x2 x3 x4) (own_n x0)))]))
            refine own_Goes.step (fun t k => XT.lcmp X31.here hx rfl (hb hby at_153) rfl k) ?_
            show own_Goes p e below s (own_F0 Z x0 x1 x2 x3 x4 n0 h0) room_1.cells room_1.slots (T31.setTop (mkF m 154 #[.val (.int x0), .val (.int x1), .val (.int x2), .val (.int x3), .val (.int x4), .val (.int ((x0 &&& (2147483647 : Int32)) % (5 : Int32))), .val (.ref a1), .val (.long (own_f0_6 x0 x1 x2 x3 x4)), .second] [(.int (XT.cmpL (own_hash (own_f0_4 x0 x1 x2 x3 x4) (own_n x0)) (own_f3 (own_f0_6 x0 x1 x2 x3 x4))))]))
            by_cases hc32 : (own_hash (own_f0_4 x0 x1 x2 x3 x4) (own_n x0)) = (own_f3 (own_f0_6 x0 x1 x2 x3 x4))
            · refine own_Goes.step (fun t k => XS.ifNo X31.here hx rfl (hb hby at_154) rfl (XT.ll_ne_f hc32) k) ?_
              show own_Goes p e below s (own_F0 Z x0 x1 x2 x3 x4 n0 h0) room_1.cells room_1.slots (T31.setTop (mkF m 157 #[.val (.int x0), .val (.int x1), .val (.int x2), .val (.int x3), .val (.int x4), .val (.int ((x0 &&& (2147483647 : Int32)) % (5 : Int32))), .val (.ref a1), .val (.long (own_f0_6 x0 x1 x2 x3 x4)), .second] []))
              refine own_Goes.step (fun t k => XT.iconstV X31.here hx rfl (1 : Int32) (hb hby at_157) (by decide) k) ?_
              show own_Goes p e below s (own_F0 Z x0 x1 x2 x3 x4 n0 h0) room_1.cells room_1.slots (T31.setTop (mkF m 158 #[.val (.int x0), .val (.int x1), .val (.int x2), .val (.int x3), .val (.int x4), .val (.int ((x0 &&& (2147483647 : Int32)) % (5 : Int32))), .val (.ref a1), .val (.long (own_f0_6 x0 x1 x2 x3 x4)), .second] [(.int (1 : Int32))]))
              refine own_Goes.step (fun t k => XS.goto X31.here hx rfl (pc0 := 158) (pc' := 162) rfl (hb hby at_158) (by decide) (by decide) k) ?_
              show own_Goes p e below s (own_F0 Z x0 x1 x2 x3 x4 n0 h0) room_1.cells room_1.slots (T31.setTop (mkF m 162 #[.val (.int x0), .val (.int x1), .val (.int x2), .val (.int x3), .val (.int x4), .val (.int ((x0 &&& (2147483647 : Int32)) % (5 : Int32))), .val (.ref a1), .val (.long (own_f0_6 x0 x1 x2 x3 x4)), .second] [(.int (1 : Int32))]))
              exact own_endN X31 hx Bd.notSynchronized (t := .boolean) Bd.returns (by simp) (hb hby at_162) ⟨(congrArg (fun z => some (Value.int z)) (show (1 : Int32) = own_f0 x0 x1 x2 x3 x4 from by simp only [own_f0, if_pos hc2, if_pos hc8, if_pos hc14, if_pos hc20, if_pos hc32])), N24⟩ (by decide) (by decide)
            · refine own_Goes.step (fun t k => XS.ifYes X31.here hx rfl (pc0 := 154) (pc' := 161) rfl (hb hby at_154) rfl (XT.ll_ne_t hc32) (by decide) (by decide) k) ?_
              show own_Goes p e below s (own_F0 Z x0 x1 x2 x3 x4 n0 h0) room_1.cells room_1.slots (T31.setTop (mkF m 161 #[.val (.int x0), .val (.int x1), .val (.int x2), .val (.int x3), .val (.int x4), .val (.int ((x0 &&& (2147483647 : Int32)) % (5 : Int32))), .val (.ref a1), .val (.long (own_f0_6 x0 x1 x2 x3 x4)), .second] []))
              refine own_Goes.step (fun t k => XT.iconstV X31.here hx rfl (0 : Int32) (hb hby at_161) (by decide) k) ?_
              show own_Goes p e below s (own_F0 Z x0 x1 x2 x3 x4 n0 h0) room_1.cells room_1.slots (T31.setTop (mkF m 162 #[.val (.int x0), .val (.int x1), .val (.int x2), .val (.int x3), .val (.int x4), .val (.int ((x0 &&& (2147483647 : Int32)) % (5 : Int32))), .val (.ref a1), .val (.long (own_f0_6 x0 x1 x2 x3 x4)), .second] [(.int (0 : Int32))]))
              exact own_endN X31 hx Bd.notSynchronized (t := .boolean) Bd.returns (by simp) (hb hby at_162) ⟨(congrArg (fun z => some (Value.int z)) (show (0 : Int32) = own_f0 x0 x1 x2 x3 x4 from by simp only [own_f0, if_pos hc2, if_pos hc8, if_pos hc14, if_pos hc20, if_neg hc32])), N24⟩ (by decide) (by decide)
          · refine own_Goes.step (fun t k => XS.icmpYes X15.here hx rfl (pc0 := 52) (pc' := 62) rfl (hb hby at_52) rfl (XT.ii_le_t hc20) (by decide) (by decide) k) ?_
            show own_Goes p e below s (own_F0 Z x0 x1 x2 x3 x4 n0 h0) room_1.cells room_1.slots (T15.setTop (mkF m 62 #[.val (.int x0), .val (.int x1), .val (.int x2), .val (.int x3), .val (.int x4), .val (.int ((x0 &&& (2147483647 : Int32)) % (5 : Int32))), .val (.ref a1), .unset, .unset] []))
            refine own_Goes.step (fun t k => X15.ldc2J hx hown (mvT hZ (hw _ (List.mem_of_getElem? (i := 2) rfl))) rfl (hb hby at_62) k) ?_
            show own_Goes p e below s (own_F0 Z x0 x1 x2 x3 x4 n0 h0) room_1.cells room_1.slots (T15.setTop (mkF m 65 #[.val (.int x0), .val (.int x1), .val (.int x2), .val (.int x3), .val (.int x4), .val (.int ((x0 &&& (2147483647 : Int32)) % (5 : Int32))), .val (.ref a1), .unset, .unset] [(.long (-3750763034362895579 : Int64))]))
            refine own_Goes.step (fun t k => XT.lstore X15.here hx rfl (hb hby at_65) rfl (l' := #[.val (.int x0), .val (.int x1), .val (.int x2), .val (.int x3), .val (.int x4), .val (.int ((x0 &&& (2147483647 : Int32)) % (5 : Int32))), .val (.ref a1), .val (.long (-3750763034362895579 : Int64)), .second]) rfl k) ?_
            show own_Goes p e below s (own_F0 Z x0 x1 x2 x3 x4 n0 h0) room_1.cells room_1.slots (T15.setTop (mkF m 67 #[.val (.int x0), .val (.int x1), .val (.int x2), .val (.int x3), .val (.int x4), .val (.int ((x0 &&& (2147483647 : Int32)) % (5 : Int32))), .val (.ref a1), .val (.long (-3750763034362895579 : Int64)), .second] []))
            refine own_Goes.step (fun t k => XT.lload X15.here hx rfl (hb hby at_67) rfl k) ?_
            show own_Goes p e below s (own_F0 Z x0 x1 x2 x3 x4 n0 h0) room_1.cells room_1.slots (T15.setTop (mkF m 69 #[.val (.int x0), .val (.int x1), .val (.int x2), .val (.int x3), .val (.int x4), .val (.int ((x0 &&& (2147483647 : Int32)) % (5 : Int32))), .val (.ref a1), .val (.long (-3750763034362895579 : Int64)), .second] [(.long (-3750763034362895579 : Int64))]))
            refine own_Goes.step (fun t k => XS.iloadN X15.here hx rfl (hb hby at_69) rfl k) ?_
            show own_Goes p e below s (own_F0 Z x0 x1 x2 x3 x4 n0 h0) room_1.cells room_1.slots (T15.setTop (mkF m 70 #[.val (.int x0), .val (.int x1), .val (.int x2), .val (.int x3), .val (.int x4), .val (.int ((x0 &&& (2147483647 : Int32)) % (5 : Int32))), .val (.ref a1), .val (.long (-3750763034362895579 : Int64)), .second] [(.int x1), (.long (-3750763034362895579 : Int64))]))
            refine own_Goes.step (fun t k => XS.iload X15.here hx rfl (hb hby at_70) rfl k) ?_
            show own_Goes p e below s (own_F0 Z x0 x1 x2 x3 x4 n0 h0) room_1.cells room_1.slots (T15.setTop (mkF m 72 #[.val (.int x0), .val (.int x1), .val (.int x2), .val (.int x3), .val (.int x4), .val (.int ((x0 &&& (2147483647 : Int32)) % (5 : Int32))), .val (.ref a1), .val (.long (-3750763034362895579 : Int64)), .second] [(.int ((x0 &&& (2147483647 : Int32)) % (5 : Int32))), (.int x1), (.long (-3750763034362895579 : Int64))]))
            refine own_Goes.step (fun t k => XS.ifNo X15.here hx rfl (hb hby at_72) rfl (XT.i0_le_f (hc2)) k) ?_
            show own_Goes p e below s (own_F0 Z x0 x1 x2 x3 x4 n0 h0) room_1.cells room_1.slots (T15.setTop (mkF m 75 #[.val (.int x0), .val (.int x1), .val (.int x2), .val (.int x3), .val (.int x4), .val (.int ((x0 &&& (2147483647 : Int32)) % (5 : Int32))), .val (.ref a1), .val (.long (-3750763034362895579 : Int64)), .second] [(.int x1), (.long (-3750763034362895579 : Int64))]))
            refine own_Goes.step (fun t k => XT.iconstV X15.here hx rfl (1 : Int32) (hb hby at_75) (by decide) k) ?_
            show own_Goes p e below s (own_F0 Z x0 x1 x2 x3 x4 n0 h0) room_1.cells room_1.slots (T15.setTop (mkF m 76 #[.val (.int x0), .val (.int x1), .val (.int x2), .val (.int x3), .val (.int x4), .val (.int ((x0 &&& (2147483647 : Int32)) % (5 : Int32))), .val (.ref a1), .val (.long (-3750763034362895579 : Int64)), .second] [(.int (1 : Int32)), (.int x1), (.long (-3750763034362895579 : Int64))]))
            refine own_Goes.step (fun t k => XS.goto X15.here hx rfl (pc0 := 76) (pc' := 80) rfl (hb hby at_76) (by decide) (by decide) k) ?_
            show own_Goes p e below s (own_F0 Z x0 x1 x2 x3 x4 n0 h0) room_1.cells room_1.slots (T15.setTop (mkF m 80 #[.val (.int x0), .val (.int x1), .val (.int x2), .val (.int x3), .val (.int x4), .val (.int ((x0 &&& (2147483647 : Int32)) % (5 : Int32))), .val (.ref a1), .val (.long (-3750763034362895579 : Int64)), .second] [(.int (1 : Int32)), (.int x1), (.long (-3750763034362895579 : Int64))]))
            obtain ⟨w33, T33, L33, q33, Y33, st33⟩ := own_stat X15 hx hZ e15 hown (hw _ (List.mem_of_getElem? (i := 3) rfl)) (hw _ (List.mem_of_getElem? (i := 4) rfl)) (hw _ (List.mem_of_getElem? (i := 5) rfl)) (hw _ (List.mem_of_getElem? (i := 6) rfl)) (by decide) (own_m1 l Z a0 hw [] (-3750763034362895579 : Int64) x1 (1 : Int32) h15 ) (by decide) (W := 0) (by decide) (by decide) (by decide) (g := (mkF m 80 #[.val (.int x0), .val (.int x1), .val (.int x2), .val (.int x3), .val (.int x4), .val (.int ((x0 &&& (2147483647 : Int32)) % (5 : Int32))), .val (.ref a1), .val (.long (-3750763034362895579 : Int64)), .second] [(.int (1 : Int32)), (.int x1), (.long (-3750763034362895579 : Int64))])) rfl (by rw [hml]; rfl) (argsL := [(.long (-3750763034362895579 : Int64)), (.int x1), (.int (1 : Int32))]) (rest := []) (lenOf pd_1 rfl) rfl (by show 2 * 0 + _ ≤ _; exact Nat.le_of_eq rfl) (hb hby at_80)
            obtain ⟨e33, X33⟩ := own_clean q33 Y33 rfl rfl
            obtain ⟨rfl, -, -⟩ := q33
            refine own_Goes.step st33 ?_
            show own_Goes p e below s (own_F0 Z x0 x1 x2 x3 x4 n0 h0) room_1.cells room_1.slots (T33.setTop (mkF m 83 #[.val (.int x0), .val (.int x1), .val (.int x2), .val (.int x3), .val (.int x4), .val (.int ((x0 &&& (2147483647 : Int32)) % (5 : Int32))), .val (.ref a1), .val (.long (-3750763034362895579 : Int64)), .second] [(.long (own_f1 (-3750763034362895579 : Int64) x1 (1 : Int32)))]))
            refine own_Goes.step (fun t k => XT.lstore X33.here hx rfl (hb hby at_83) rfl (l' := #[.val (.int x0), .val (.int x1), .val (.int x2), .val (.int x3), .val (.int x4), .val (.int ((x0 &&& (2147483647 : Int32)) % (5 : Int32))), .val (.ref a1), .val (.long (own_f1 (-3750763034362895579 : Int64) x1 (1 : Int32))), .second]) rfl k) ?_
            show own_Goes p e below s (own_F0 Z x0 x1 x2 x3 x4 n0 h0) room_1.cells room_1.slots (T33.setTop (mkF m 85 #[.val (.int x0), .val (.int x1), .val (.int x2), .val (.int x3), .val (.int x4), .val (.int ((x0 &&& (2147483647 : Int32)) % (5 : Int32))), .val (.ref a1), .val (.long (own_f1 (-3750763034362895579 : Int64) x1 (1 : Int32))), .second] []))
            refine own_Goes.step (fun t k => XT.lload X33.here hx rfl (hb hby at_85) rfl k) ?_
            show own_Goes p e below s (own_F0 Z x0 x1 x2 x3 x4 n0 h0) room_1.cells room_1.slots (T33.setTop (mkF m 87 #[.val (.int x0), .val (.int x1), .val (.int x2), .val (.int x3), .val (.int x4), .val (.int ((x0 &&& (2147483647 : Int32)) % (5 : Int32))), .val (.ref a1), .val (.long (own_f1 (-3750763034362895579 : Int64) x1 (1 : Int32))), .second] [(.long (own_f1 (-3750763034362895579 : Int64) x1 (1 : Int32)))]))
            refine own_Goes.step (fun t k => XS.iloadN X33.here hx rfl (hb hby at_87) rfl k) ?_
            show own_Goes p e below s (own_F0 Z x0 x1 x2 x3 x4 n0 h0) room_1.cells room_1.slots (T33.setTop (mkF m 88 #[.val (.int x0), .val (.int x1), .val (.int x2), .val (.int x3), .val (.int x4), .val (.int ((x0 &&& (2147483647 : Int32)) % (5 : Int32))), .val (.ref a1), .val (.long (own_f1 (-3750763034362895579 : Int64) x1 (1 : Int32))), .second] [(.int x2), (.long (own_f1 (-3750763034362895579 : Int64) x1 (1 : Int32)))]))
            refine own_Goes.step (fun t k => XS.iload X33.here hx rfl (hb hby at_88) rfl k) ?_
            show own_Goes p e below s (own_F0 Z x0 x1 x2 x3 x4 n0 h0) room_1.cells room_1.slots (T33.setTop (mkF m 90 #[.val (.int x0), .val (.int x1), .val (.int x2), .val (.int x3), .val (.int x4), .val (.int ((x0 &&& (2147483647 : Int32)) % (5 : Int32))), .val (.ref a1), .val (.long (own_f1 (-3750763034362895579 : Int64) x1 (1 : Int32))), .second] [(.int ((x0 &&& (2147483647 : Int32)) % (5 : Int32))), (.int x2), (.long (own_f1 (-3750763034362895579 : Int64) x1 (1 : Int32)))]))
            refine own_Goes.step (fun t k => XT.iconstV X33.here hx rfl (1 : Int32) (hb hby at_90) (by decide) k) ?_
            show own_Goes p e below s (own_F0 Z x0 x1 x2 x3 x4 n0 h0) room_1.cells room_1.slots (T33.setTop (mkF m 91 #[.val (.int x0), .val (.int x1), .val (.int x2), .val (.int x3), .val (.int x4), .val (.int ((x0 &&& (2147483647 : Int32)) % (5 : Int32))), .val (.ref a1), .val (.long (own_f1 (-3750763034362895579 : Int64) x1 (1 : Int32))), .second] [(.int (1 : Int32)), (.int ((x0 &&& (2147483647 : Int32)) % (5 : Int32))), (.int x2), (.long (own_f1 (-3750763034362895579 : Int64) x1 (1 : Int32)))]))
            refine own_Goes.step (fun t k => XS.icmpNo X33.here hx rfl (hb hby at_91) rfl (XT.ii_le_f (hc8)) k) ?_
            show own_Goes p e below s (own_F0 Z x0 x1 x2 x3 x4 n0 h0) room_1.cells room_1.slots (T33.setTop (mkF m 94 #[.val (.int x0), .val (.int x1), .val (.int x2), .val (.int x3), .val (.int x4), .val (.int ((x0 &&& (2147483647 : Int32)) % (5 : Int32))), .val (.ref a1), .val (.long (own_f1 (-3750763034362895579 : Int64) x1 (1 : Int32))), .second] [(.int x2), (.long (own_f1 (-3750763034362895579 : Int64) x1 (1 : Int32)))]))
            refine own_Goes.step (fun t k => XT.iconstV X33.here hx rfl (1 : Int32) (hb hby at_94) (by decide) k) ?_
            show own_Goes p e below s (own_F0 Z x0 x1 x2 x3 x4 n0 h0) room_1.cells room_1.slots (T33.setTop (mkF m 95 #[.val (.int x0), .val (.int x1), .val (.int x2), .val (.int x3), .val (.int x4), .val (.int ((x0 &&& (2147483647 : Int32)) % (5 : Int32))), .val (.ref a1), .val (.long (own_f1 (-3750763034362895579 : Int64) x1 (1 : Int32))), .second] [(.int (1 : Int32)), (.int x2), (.long (own_f1 (-3750763034362895579 : Int64) x1 (1 : Int32)))]))
            refine own_Goes.step (fun t k => XS.goto X33.here hx rfl (pc0 := 95) (pc' := 99) rfl (hb hby at_95) (by decide) (by decide) k) ?_
            show own_Goes p e below s (own_F0 Z x0 x1 x2 x3 x4 n0 h0) room_1.cells room_1.slots (T33.setTop (mkF m 99 #[.val (.int x0), .val (.int x1), .val (.int x2), .val (.int x3), .val (.int x4), .val (.int ((x0 &&& (2147483647 : Int32)) % (5 : Int32))), .val (.ref a1), .val (.long (own_f1 (-3750763034362895579 : Int64) x1 (1 : Int32))), .second] [(.int (1 : Int32)), (.int x2), (.long (own_f1 (-3750763034362895579 : Int64) x1 (1 : Int32)))]))
            obtain ⟨w34, T34, L34, q34, Y34, st34⟩ := own_stat X33 hx hZ e33 hown (hw _ (List.mem_of_getElem? (i := 3) rfl)) (hw _ (List.mem_of_getElem? (i := 4) rfl)) (hw _ (List.mem_of_getElem? (i := 5) rfl)) (hw _ (List.mem_of_getElem? (i := 6) rfl)) (by decide) (own_m1 l Z a0 hw [] (own_f1 (-3750763034362895579 : Int64) x1 (1 : Int32)) x2 (1 : Int32) h15 ) (by decide) (W := 0) (by decide) (by decide) (by decide) (g := (mkF m 99 #[.val (.int x0), .val (.int x1), .val (.int x2), .val (.int x3), .val (.int x4), .val (.int ((x0 &&& (2147483647 : Int32)) % (5 : Int32))), .val (.ref a1), .val (.long (own_f1 (-3750763034362895579 : Int64) x1 (1 : Int32))), .second] [(.int (1 : Int32)), (.int x2), (.long (own_f1 (-3750763034362895579 : Int64) x1 (1 : Int32)))])) rfl (by rw [hml]; rfl) (argsL := [(.long (own_f1 (-3750763034362895579 : Int64) x1 (1 : Int32))), (.int x2), (.int (1 : Int32))]) (rest := []) (lenOf pd_1 rfl) rfl (by show 2 * 0 + _ ≤ _; exact Nat.le_of_eq rfl) (hb hby at_99)
            obtain ⟨e34, X34⟩ := own_clean q34 Y34 rfl rfl
            obtain ⟨rfl, -, -⟩ := q34
            refine own_Goes.step st34 ?_
            show own_Goes p e below s (own_F0 Z x0 x1 x2 x3 x4 n0 h0) room_1.cells room_1.slots (T34.setTop (mkF m 102 #[.val (.int x0), .val (.int x1), .val (.int x2), .val (.int x3), .val (.int x4), .val (.int ((x0 &&& (2147483647 : Int32)) % (5 : Int32))), .val (.ref a1), .val (.long (own_f1 (-3750763034362895579 : Int64) x1 (1 : Int32))), .second] [(.long (own_f1 (own_f1 (-3750763034362895579 : Int64) x1 (1 : Int32)) x2 (1 : Int32)))]))
            refine own_Goes.step (fun t k => XT.lstore X34.here hx rfl (hb hby at_102) rfl (l' := #[.val (.int x0), .val (.int x1), .val (.int x2), .val (.int x3), .val (.int x4), .val (.int ((x0 &&& (2147483647 : Int32)) % (5 : Int32))), .val (.ref a1), .val (.long (own_f0_5 x0 x1 x2 x3 x4)), .second]) rfl k) ?_
            show own_Goes p e below s (own_F0 Z x0 x1 x2 x3 x4 n0 h0) room_1.cells room_1.slots (T34.setTop (mkF m 104 #[.val (.int x0), .val (.int x1), .val (.int x2), .val (.int x3), .val (.int x4), .val (.int ((x0 &&& (2147483647 : Int32)) % (5 : Int32))), .val (.ref a1), .val (.long (own_f0_5 x0 x1 x2 x3 x4)), .second] []))
            refine own_Goes.step (fun t k => XT.lload X34.here hx rfl (hb hby at_104) rfl k) ?_
            show own_Goes p e below s (own_F0 Z x0 x1 x2 x3 x4 n0 h0) room_1.cells room_1.slots (T34.setTop (mkF m 106 #[.val (.int x0), .val (.int x1), .val (.int x2), .val (.int x3), .val (.int x4), .val (.int ((x0 &&& (2147483647 : Int32)) % (5 : Int32))), .val (.ref a1), .val (.long (own_f0_5 x0 x1 x2 x3 x4)), .second] [(.long (own_f0_5 x0 x1 x2 x3 x4))]))
            refine own_Goes.step (fun t k => XS.iloadN X34.here hx rfl (hb hby at_106) rfl k) ?_
            show own_Goes p e below s (own_F0 Z x0 x1 x2 x3 x4 n0 h0) room_1.cells room_1.slots (T34.setTop (mkF m 107 #[.val (.int x0), .val (.int x1), .val (.int x2), .val (.int x3), .val (.int x4), .val (.int ((x0 &&& (2147483647 : Int32)) % (5 : Int32))), .val (.ref a1), .val (.long (own_f0_5 x0 x1 x2 x3 x4)), .second] [(.int x3), (.long (own_f0_5 x0 x1 x2 x3 x4))]))
            refine own_Goes.step (fun t k => XS.iload X34.here hx rfl (hb hby at_107) rfl k) ?_
            show own_Goes p e below s (own_F0 Z x0 x1 x2 x3 x4 n0 h0) room_1.cells room_1.slots (T34.setTop (mkF m 109 #[.val (.int x0), .val (.int x1), .val (.int x2), .val (.int x3), .val (.int x4), .val (.int ((x0 &&& (2147483647 : Int32)) % (5 : Int32))), .val (.ref a1), .val (.long (own_f0_5 x0 x1 x2 x3 x4)), .second] [(.int ((x0 &&& (2147483647 : Int32)) % (5 : Int32))), (.int x3), (.long (own_f0_5 x0 x1 x2 x3 x4))]))
            refine own_Goes.step (fun t k => XT.iconstV X34.here hx rfl (2 : Int32) (hb hby at_109) (by decide) k) ?_
            show own_Goes p e below s (own_F0 Z x0 x1 x2 x3 x4 n0 h0) room_1.cells room_1.slots (T34.setTop (mkF m 110 #[.val (.int x0), .val (.int x1), .val (.int x2), .val (.int x3), .val (.int x4), .val (.int ((x0 &&& (2147483647 : Int32)) % (5 : Int32))), .val (.ref a1), .val (.long (own_f0_5 x0 x1 x2 x3 x4)), .second] [(.int (2 : Int32)), (.int ((x0 &&& (2147483647 : Int32)) % (5 : Int32))), (.int x3), (.long (own_f0_5 x0 x1 x2 x3 x4))]))
            refine own_Goes.step (fun t k => XS.icmpNo X34.here hx rfl (hb hby at_110) rfl (XT.ii_le_f (hc14)) k) ?_
            show own_Goes p e below s (own_F0 Z x0 x1 x2 x3 x4 n0 h0) room_1.cells room_1.slots (T34.setTop (mkF m 113 #[.val (.int x0), .val (.int x1), .val (.int x2), .val (.int x3), .val (.int x4), .val (.int ((x0 &&& (2147483647 : Int32)) % (5 : Int32))), .val (.ref a1), .val (.long (own_f0_5 x0 x1 x2 x3 x4)), .second] [(.int x3), (.long (own_f0_5 x0 x1 x2 x3 x4))]))
            refine own_Goes.step (fun t k => XT.iconstV X34.here hx rfl (1 : Int32) (hb hby at_113) (by decide) k) ?_
            show own_Goes p e below s (own_F0 Z x0 x1 x2 x3 x4 n0 h0) room_1.cells room_1.slots (T34.setTop (mkF m 114 #[.val (.int x0), .val (.int x1), .val (.int x2), .val (.int x3), .val (.int x4), .val (.int ((x0 &&& (2147483647 : Int32)) % (5 : Int32))), .val (.ref a1), .val (.long (own_f0_5 x0 x1 x2 x3 x4)), .second] [(.int (1 : Int32)), (.int x3), (.long (own_f0_5 x0 x1 x2 x3 x4))]))
            refine own_Goes.step (fun t k => XS.goto X34.here hx rfl (pc0 := 114) (pc' := 118) rfl (hb hby at_114) (by decide) (by decide) k) ?_
            show own_Goes p e below s (own_F0 Z x0 x1 x2 x3 x4 n0 h0) room_1.cells room_1.slots (T34.setTop (mkF m 118 #[.val (.int x0), .val (.int x1), .val (.int x2), .val (.int x3), .val (.int x4), .val (.int ((x0 &&& (2147483647 : Int32)) % (5 : Int32))), .val (.ref a1), .val (.long (own_f0_5 x0 x1 x2 x3 x4)), .second] [(.int (1 : Int32)), (.int x3), (.long (own_f0_5 x0 x1 x2 x3 x4))]))
            obtain ⟨w35, T35, L35, q35, Y35, st35⟩ := own_stat X34 hx hZ e34 hown (hw _ (List.mem_of_getElem? (i := 3) rfl)) (hw _ (List.mem_of_getElem? (i := 4) rfl)) (hw _ (List.mem_of_getElem? (i := 5) rfl)) (hw _ (List.mem_of_getElem? (i := 6) rfl)) (by decide) (own_m1 l Z a0 hw [] (own_f0_5 x0 x1 x2 x3 x4) x3 (1 : Int32) h15 ) (by decide) (W := 0) (by decide) (by decide) (by decide) (g := (mkF m 118 #[.val (.int x0), .val (.int x1), .val (.int x2), .val (.int x3), .val (.int x4), .val (.int ((x0 &&& (2147483647 : Int32)) % (5 : Int32))), .val (.ref a1), .val (.long (own_f0_5 x0 x1 x2 x3 x4)), .second] [(.int (1 : Int32)), (.int x3), (.long (own_f0_5 x0 x1 x2 x3 x4))])) rfl (by rw [hml]; rfl) (argsL := [(.long (own_f0_5 x0 x1 x2 x3 x4)), (.int x3), (.int (1 : Int32))]) (rest := []) (lenOf pd_1 rfl) rfl (by show 2 * 0 + _ ≤ _; exact Nat.le_of_eq rfl) (hb hby at_118)
            obtain ⟨e35, X35⟩ := own_clean q35 Y35 rfl rfl
            obtain ⟨rfl, -, -⟩ := q35
            refine own_Goes.step st35 ?_
            show own_Goes p e below s (own_F0 Z x0 x1 x2 x3 x4 n0 h0) room_1.cells room_1.slots (T35.setTop (mkF m 121 #[.val (.int x0), .val (.int x1), .val (.int x2), .val (.int x3), .val (.int x4), .val (.int ((x0 &&& (2147483647 : Int32)) % (5 : Int32))), .val (.ref a1), .val (.long (own_f0_5 x0 x1 x2 x3 x4)), .second] [(.long (own_f1 (own_f0_5 x0 x1 x2 x3 x4) x3 (1 : Int32)))]))
            refine own_Goes.step (fun t k => XT.lstore X35.here hx rfl (hb hby at_121) rfl (l' := #[.val (.int x0), .val (.int x1), .val (.int x2), .val (.int x3), .val (.int x4), .val (.int ((x0 &&& (2147483647 : Int32)) % (5 : Int32))), .val (.ref a1), .val (.long (own_f1 (own_f0_5 x0 x1 x2 x3 x4) x3 (1 : Int32))), .second]) rfl k) ?_
            show own_Goes p e below s (own_F0 Z x0 x1 x2 x3 x4 n0 h0) room_1.cells room_1.slots (T35.setTop (mkF m 123 #[.val (.int x0), .val (.int x1), .val (.int x2), .val (.int x3), .val (.int x4), .val (.int ((x0 &&& (2147483647 : Int32)) % (5 : Int32))), .val (.ref a1), .val (.long (own_f1 (own_f0_5 x0 x1 x2 x3 x4) x3 (1 : Int32))), .second] []))
            refine own_Goes.step (fun t k => XT.lload X35.here hx rfl (hb hby at_123) rfl k) ?_
            show own_Goes p e below s (own_F0 Z x0 x1 x2 x3 x4 n0 h0) room_1.cells room_1.slots (T35.setTop (mkF m 125 #[.val (.int x0), .val (.int x1), .val (.int x2), .val (.int x3), .val (.int x4), .val (.int ((x0 &&& (2147483647 : Int32)) % (5 : Int32))), .val (.ref a1), .val (.long (own_f1 (own_f0_5 x0 x1 x2 x3 x4) x3 (1 : Int32))), .second] [(.long (own_f1 (own_f0_5 x0 x1 x2 x3 x4) x3 (1 : Int32)))]))
            refine own_Goes.step (fun t k => XS.iload X35.here hx rfl (hb hby at_125) rfl k) ?_
            show own_Goes p e below s (own_F0 Z x0 x1 x2 x3 x4 n0 h0) room_1.cells room_1.slots (T35.setTop (mkF m 127 #[.val (.int x0), .val (.int x1), .val (.int x2), .val (.int x3), .val (.int x4), .val (.int ((x0 &&& (2147483647 : Int32)) % (5 : Int32))), .val (.ref a1), .val (.long (own_f1 (own_f0_5 x0 x1 x2 x3 x4) x3 (1 : Int32))), .second] [(.int x4), (.long (own_f1 (own_f0_5 x0 x1 x2 x3 x4) x3 (1 : Int32)))]))
            refine own_Goes.step (fun t k => XS.iload X35.here hx rfl (hb hby at_127) rfl k) ?_
            show own_Goes p e below s (own_F0 Z x0 x1 x2 x3 x4 n0 h0) room_1.cells room_1.slots (T35.setTop (mkF m 129 #[.val (.int x0), .val (.int x1), .val (.int x2), .val (.int x3), .val (.int x4), .val (.int ((x0 &&& (2147483647 : Int32)) % (5 : Int32))), .val (.ref a1), .val (.long (own_f1 (own_f0_5 x0 x1 x2 x3 x4) x3 (1 : Int32))), .second] [(.int ((x0 &&& (2147483647 : Int32)) % (5 : Int32))), (.int x4), (.long (own_f1 (own_f0_5 x0 x1 x2 x3 x4) x3 (1 : Int32)))]))
            refine own_Goes.step (fun t k => XT.iconstV X35.here hx rfl (3 : Int32) (hb hby at_129) (by decide) k) ?_
            show own_Goes p e below s (own_F0 Z x0 x1 x2 x3 x4 n0 h0) room_1.cells room_1.slots (T35.setTop (mkF m 130 #[.val (.int x0), .val (.int x1), .val (.int x2), .val (.int x3), .val (.int x4), .val (.int ((x0 &&& (2147483647 : Int32)) % (5 : Int32))), .val (.ref a1), .val (.long (own_f1 (own_f0_5 x0 x1 x2 x3 x4) x3 (1 : Int32))), .second] [(.int (3 : Int32)), (.int ((x0 &&& (2147483647 : Int32)) % (5 : Int32))), (.int x4), (.long (own_f1 (own_f0_5 x0 x1 x2 x3 x4) x3 (1 : Int32)))]))
            refine own_Goes.step (fun t k => XS.icmpYes X35.here hx rfl (pc0 := 130) (pc' := 137) rfl (hb hby at_130) rfl (XT.ii_le_t (hc20)) (by decide) (by decide) k) ?_
            show own_Goes p e below s (own_F0 Z x0 x1 x2 x3 x4 n0 h0) room_1.cells room_1.slots (T35.setTop (mkF m 137 #[.val (.int x0), .val (.int x1), .val (.int x2), .val (.int x3), .val (.int x4), .val (.int ((x0 &&& (2147483647 : Int32)) % (5 : Int32))), .val (.ref a1), .val (.long (own_f1 (own_f0_5 x0 x1 x2 x3 x4) x3 (1 : Int32))), .second] [(.int x4), (.long (own_f1 (own_f0_5 x0 x1 x2 x3 x4) x3 (1 : Int32)))]))
            refine own_Goes.step (fun t k => XT.iconstV X35.here hx rfl (0 : Int32) (hb hby at_137) (by decide) k) ?_
            show own_Goes p e below s (own_F0 Z x0 x1 x2 x3 x4 n0 h0) room_1.cells room_1.slots (T35.setTop (mkF m 138 #[.val (.int x0), .val (.int x1), .val (.int x2), .val (.int x3), .val (.int x4), .val (.int ((x0 &&& (2147483647 : Int32)) % (5 : Int32))), .val (.ref a1), .val (.long (own_f1 (own_f0_5 x0 x1 x2 x3 x4) x3 (1 : Int32))), .second] [(.int (0 : Int32)), (.int x4), (.long (own_f1 (own_f0_5 x0 x1 x2 x3 x4) x3 (1 : Int32)))]))
            obtain ⟨w36, T36, L36, q36, Y36, st36⟩ := own_stat X35 hx hZ e35 hown (hw _ (List.mem_of_getElem? (i := 3) rfl)) (hw _ (List.mem_of_getElem? (i := 4) rfl)) (hw _ (List.mem_of_getElem? (i := 5) rfl)) (hw _ (List.mem_of_getElem? (i := 6) rfl)) (by decide) (own_m1 l Z a0 hw [] (own_f1 (own_f0_5 x0 x1 x2 x3 x4) x3 (1 : Int32)) x4 (0 : Int32) h15 ) (by decide) (W := 0) (by decide) (by decide) (by decide) (g := (mkF m 138 #[.val (.int x0), .val (.int x1), .val (.int x2), .val (.int x3), .val (.int x4), .val (.int ((x0 &&& (2147483647 : Int32)) % (5 : Int32))), .val (.ref a1), .val (.long (own_f1 (own_f0_5 x0 x1 x2 x3 x4) x3 (1 : Int32))), .second] [(.int (0 : Int32)), (.int x4), (.long (own_f1 (own_f0_5 x0 x1 x2 x3 x4) x3 (1 : Int32)))])) rfl (by rw [hml]; rfl) (argsL := [(.long (own_f1 (own_f0_5 x0 x1 x2 x3 x4) x3 (1 : Int32))), (.int x4), (.int (0 : Int32))]) (rest := []) (lenOf pd_1 rfl) rfl (by show 2 * 0 + _ ≤ _; exact Nat.le_of_eq rfl) (hb hby at_138)
            obtain ⟨e36, X36⟩ := own_clean q36 Y36 rfl rfl
            obtain ⟨rfl, -, -⟩ := q36
            refine own_Goes.step st36 ?_
            show own_Goes p e below s (own_F0 Z x0 x1 x2 x3 x4 n0 h0) room_1.cells room_1.slots (T36.setTop (mkF m 141 #[.val (.int x0), .val (.int x1), .val (.int x2), .val (.int x3), .val (.int x4), .val (.int ((x0 &&& (2147483647 : Int32)) % (5 : Int32))), .val (.ref a1), .val (.long (own_f1 (own_f0_5 x0 x1 x2 x3 x4) x3 (1 : Int32))), .second] [(.long (own_f1 (own_f1 (own_f0_5 x0 x1 x2 x3 x4) x3 (1 : Int32)) x4 (0 : Int32)))]))
            refine own_Goes.step (fun t k => XT.lstore X36.here hx rfl (hb hby at_141) rfl (l' := #[.val (.int x0), .val (.int x1), .val (.int x2), .val (.int x3), .val (.int x4), .val (.int ((x0 &&& (2147483647 : Int32)) % (5 : Int32))), .val (.ref a1), .val (.long (own_f0_7 x0 x1 x2 x3 x4)), .second]) rfl k) ?_
            show own_Goes p e below s (own_F0 Z x0 x1 x2 x3 x4 n0 h0) room_1.cells room_1.slots (T36.setTop (mkF m 143 #[.val (.int x0), .val (.int x1), .val (.int x2), .val (.int x3), .val (.int x4), .val (.int ((x0 &&& (2147483647 : Int32)) % (5 : Int32))), .val (.ref a1), .val (.long (own_f0_7 x0 x1 x2 x3 x4)), .second] []))
            refine own_Goes.step (fun t k => XS.aload X36.here hx rfl (hb hby at_143) rfl rfl k) ?_
            show own_Goes p e below s (own_F0 Z x0 x1 x2 x3 x4 n0 h0) room_1.cells room_1.slots (T36.setTop (mkF m 145 #[.val (.int x0), .val (.int x1), .val (.int x2), .val (.int x3), .val (.int x4), .val (.int ((x0 &&& (2147483647 : Int32)) % (5 : Int32))), .val (.ref a1), .val (.long (own_f0_7 x0 x1 x2 x3 x4)), .second] [(.ref a1)]))
            obtain ⟨w37, T37, L37, q37, Y37, st37⟩ := own_stat X36 hx hZ e36 hown (hw _ (List.mem_of_getElem? (i := 7) rfl)) (hw _ (List.mem_of_getElem? (i := 8) rfl)) (hw _ (List.mem_of_getElem? (i := 9) rfl)) (hw _ (List.mem_of_getElem? (i := 10) rfl)) (by decide) (own_m2 l Z a0 hw [] a1 (own_n x0) (own_f0_3 x0 x1 x2 x3 x4) n0 h15 f16 (Nat.lt_of_le_of_lt (own_n4 x0) (by decide))) (by decide) (W := 0) (by decide) (by decide) (by decide) (g := (mkF m 145 #[.val (.int x0), .val (.int x1), .val (.int x2), .val (.int x3), .val (.int x4), .val (.int ((x0 &&& (2147483647 : Int32)) % (5 : Int32))), .val (.ref a1), .val (.long (own_f0_7 x0 x1 x2 x3 x4)), .second] [(.ref a1)])) rfl (by rw [hml]; rfl) (argsL := [(.ref a1)]) (rest := []) (lenOf pd_2 rfl) rfl (by show 2 * 0 + _ ≤ _; exact Nat.le_of_eq rfl) (hb hby at_145)
            obtain ⟨e37, X37⟩ := own_clean q37 Y37 rfl rfl
            obtain ⟨rfl, -, -⟩ := q37
            refine own_Goes.step st37 ?_
            show own_Goes p e below s (own_F0 Z x0 x1 x2 x3 x4 n0 h0) room_1.cells room_1.slots (T37.setTop (mkF m 148 #[.val (.int x0), .val (.int x1), .val (.int x2), .val (.int x3), .val (.int x4), .val (.int ((x0 &&& (2147483647 : Int32)) % (5 : Int32))), .val (.ref a1), .val (.long (own_f0_7 x0 x1 x2 x3 x4)), .second] [(.long (own_hash (own_f0_3 x0 x1 x2 x3 x4) (own_n x0)))]))
            refine own_Goes.step (fun t k => XT.lload X37.here hx rfl (hb hby at_148) rfl k) ?_
            show own_Goes p e below s (own_F0 Z x0 x1 x2 x3 x4 n0 h0) room_1.cells room_1.slots (T37.setTop (mkF m 150 #[.val (.int x0), .val (.int x1), .val (.int x2), .val (.int x3), .val (.int x4), .val (.int ((x0 &&& (2147483647 : Int32)) % (5 : Int32))), .val (.ref a1), .val (.long (own_f0_7 x0 x1 x2 x3 x4)), .second] [(.long (own_f0_7 x0 x1 x2 x3 x4)), (.long (own_hash (own_f0_3 x0 x1 x2 x3 x4) (own_n x0)))]))
            obtain ⟨w38, T38, L38, q38, Y38, st38⟩ := own_stat X37 hx hZ e37 hown (hw _ (List.mem_of_getElem? (i := 14) rfl)) (hw _ (List.mem_of_getElem? (i := 15) rfl)) (hw _ (List.mem_of_getElem? (i := 5) rfl)) (hw _ (List.mem_of_getElem? (i := 16) rfl)) (by decide) (own_m3 l Z a0 hw [] (own_f0_7 x0 x1 x2 x3 x4) h15 ) (by decide) (W := 2) (by decide) (by decide) (by decide) (g := (mkF m 150 #[.val (.int x0), .val (.int x1), .val (.int x2), .val (.int x3), .val (.int x4), .val (.int ((x0 &&& (2147483647 : Int32)) % (5 : Int32))), .val (.ref a1), .val (.long (own_f0_7 x0 x1 x2 x3 x4)), .second] [(.long (own_f0_7 x0 x1 x2 x3 x4)), (.long (own_hash (own_f0_3 x0 x1 x2 x3 x4) (own_n x0)))])) rfl (by rw [hml]; rfl) (argsL := [(.long (own_f0_7 x0 x1 x2 x3 x4))]) (rest := [(.long (own_hash (own_f0_3 x0 x1 x2 x3 x4) (own_n x0)))]) (lenOf pd_3 rfl) rfl (by show 2 * 0 + _ ≤ _; exact Nat.le_of_eq rfl) (hb hby at_150)
            obtain ⟨e38, X38⟩ := own_clean q38 Y38 rfl rfl
            obtain ⟨rfl, -, -⟩ := q38
            refine own_Goes.step st38 ?_
            show own_Goes p e below s (own_F0 Z x0 x1 x2 x3 x4 n0 h0) room_1.cells room_1.slots (T38.setTop (mkF m 153 #[.val (.int x0), .val (.int x1), .val (.int x2), .val (.int x3), .val (.int x4), .val (.int ((x0 &&& (2147483647 : Int32)) % (5 : Int32))), .val (.ref a1), .val (.long (own_f0_7 x0 x1 x2 x3 x4)), .second] [(.long (own_f3 (own_f0_7 x0 x1 x2 x3 x4))), (.long (own_hash (own_f0_3 x0 x1 x2 x3 x4) (own_n x0)))]))
            refine own_Goes.step (fun t k => XT.lcmp X38.here hx rfl (hb hby at_153) rfl k) ?_
            show own_Goes p e below s (own_F0 Z x0 x1 x2 x3 x4 n0 h0) room_1.cells room_1.slots (T38.setTop (mkF m 154 #[.val (.int x0), .val (.int x1), .val (.int x2), .val (.int x3), .val (.int x4), .val (.int ((x0 &&& (2147483647 : Int32)) % (5 : Int32))), .val (.ref a1), .val (.long (own_f0_7 x0 x1 x2 x3 x4)), .second] [(.int (XT.cmpL (own_hash (own_f0_3 x0 x1 x2 x3 x4) (own_n x0)) (own_f3 (own_f0_7 x0 x1 x2 x3 x4))))]))
            by_cases hc39 : (own_hash (own_f0_3 x0 x1 x2 x3 x4) (own_n x0)) = (own_f3 (own_f0_7 x0 x1 x2 x3 x4))
            · refine own_Goes.step (fun t k => XS.ifNo X38.here hx rfl (hb hby at_154) rfl (XT.ll_ne_f hc39) k) ?_
              show own_Goes p e below s (own_F0 Z x0 x1 x2 x3 x4 n0 h0) room_1.cells room_1.slots (T38.setTop (mkF m 157 #[.val (.int x0), .val (.int x1), .val (.int x2), .val (.int x3), .val (.int x4), .val (.int ((x0 &&& (2147483647 : Int32)) % (5 : Int32))), .val (.ref a1), .val (.long (own_f0_7 x0 x1 x2 x3 x4)), .second] []))
              refine own_Goes.step (fun t k => XT.iconstV X38.here hx rfl (1 : Int32) (hb hby at_157) (by decide) k) ?_
              show own_Goes p e below s (own_F0 Z x0 x1 x2 x3 x4 n0 h0) room_1.cells room_1.slots (T38.setTop (mkF m 158 #[.val (.int x0), .val (.int x1), .val (.int x2), .val (.int x3), .val (.int x4), .val (.int ((x0 &&& (2147483647 : Int32)) % (5 : Int32))), .val (.ref a1), .val (.long (own_f0_7 x0 x1 x2 x3 x4)), .second] [(.int (1 : Int32))]))
              refine own_Goes.step (fun t k => XS.goto X38.here hx rfl (pc0 := 158) (pc' := 162) rfl (hb hby at_158) (by decide) (by decide) k) ?_
              show own_Goes p e below s (own_F0 Z x0 x1 x2 x3 x4 n0 h0) room_1.cells room_1.slots (T38.setTop (mkF m 162 #[.val (.int x0), .val (.int x1), .val (.int x2), .val (.int x3), .val (.int x4), .val (.int ((x0 &&& (2147483647 : Int32)) % (5 : Int32))), .val (.ref a1), .val (.long (own_f0_7 x0 x1 x2 x3 x4)), .second] [(.int (1 : Int32))]))
              exact own_endN X38 hx Bd.notSynchronized (t := .boolean) Bd.returns (by simp) (hb hby at_162) ⟨(congrArg (fun z => some (Value.int z)) (show (1 : Int32) = own_f0 x0 x1 x2 x3 x4 from by simp only [own_f0, if_pos hc2, if_pos hc8, if_pos hc14, if_neg hc20, if_pos hc39])), N18⟩ (by decide) (by decide)
            · refine own_Goes.step (fun t k => XS.ifYes X38.here hx rfl (pc0 := 154) (pc' := 161) rfl (hb hby at_154) rfl (XT.ll_ne_t hc39) (by decide) (by decide) k) ?_
              show own_Goes p e below s (own_F0 Z x0 x1 x2 x3 x4 n0 h0) room_1.cells room_1.slots (T38.setTop (mkF m 161 #[.val (.int x0), .val (.int x1), .val (.int x2), .val (.int x3), .val (.int x4), .val (.int ((x0 &&& (2147483647 : Int32)) % (5 : Int32))), .val (.ref a1), .val (.long (own_f0_7 x0 x1 x2 x3 x4)), .second] []))
              refine own_Goes.step (fun t k => XT.iconstV X38.here hx rfl (0 : Int32) (hb hby at_161) (by decide) k) ?_
              show own_Goes p e below s (own_F0 Z x0 x1 x2 x3 x4 n0 h0) room_1.cells room_1.slots (T38.setTop (mkF m 162 #[.val (.int x0), .val (.int x1), .val (.int x2), .val (.int x3), .val (.int x4), .val (.int ((x0 &&& (2147483647 : Int32)) % (5 : Int32))), .val (.ref a1), .val (.long (own_f0_7 x0 x1 x2 x3 x4)), .second] [(.int (0 : Int32))]))
              exact own_endN X38 hx Bd.notSynchronized (t := .boolean) Bd.returns (by simp) (hb hby at_162) ⟨(congrArg (fun z => some (Value.int z)) (show (0 : Int32) = own_f0 x0 x1 x2 x3 x4 from by simp only [own_f0, if_pos hc2, if_pos hc8, if_pos hc14, if_neg hc20, if_neg hc39])), N18⟩ (by decide) (by decide)
        · refine own_Goes.step (fun t k => XS.icmpYes X9.here hx rfl (pc0 := 40) (pc' := 49) rfl (hb hby at_40) rfl (XT.ii_le_t hc14) (by decide) (by decide) k) ?_
          show own_Goes p e below s (own_F0 Z x0 x1 x2 x3 x4 n0 h0) room_1.cells room_1.slots (T9.setTop (mkF m 49 #[.val (.int x0), .val (.int x1), .val (.int x2), .val (.int x3), .val (.int x4), .val (.int ((x0 &&& (2147483647 : Int32)) % (5 : Int32))), .val (.ref a1), .unset, .unset] []))
          refine own_Goes.step (fun t k => XS.iload X9.here hx rfl (hb hby at_49) rfl k) ?_
          show own_Goes p e below s (own_F0 Z x0 x1 x2 x3 x4 n0 h0) room_1.cells room_1.slots (T9.setTop (mkF m 51 #[.val (.int x0), .val (.int x1), .val (.int x2), .val (.int x3), .val (.int x4), .val (.int ((x0 &&& (2147483647 : Int32)) % (5 : Int32))), .val (.ref a1), .unset, .unset] [(.int ((x0 &&& (2147483647 : Int32)) % (5 : Int32)))]))
          refine own_Goes.step (fun t k => XT.iconstV X9.here hx rfl (3 : Int32) (hb hby at_51) (by decide) k) ?_
          show own_Goes p e below s (own_F0 Z x0 x1 x2 x3 x4 n0 h0) room_1.cells room_1.slots (T9.setTop (mkF m 52 #[.val (.int x0), .val (.int x1), .val (.int x2), .val (.int x3), .val (.int x4), .val (.int ((x0 &&& (2147483647 : Int32)) % (5 : Int32))), .val (.ref a1), .unset, .unset] [(.int (3 : Int32)), (.int ((x0 &&& (2147483647 : Int32)) % (5 : Int32)))]))
          refine own_Goes.step (fun t k => XS.icmpYes X9.here hx rfl (pc0 := 52) (pc' := 62) rfl (hb hby at_52) rfl (XT.ii_le_t (own_nlt (by decide) hc14)) (by decide) (by decide) k) ?_
          show own_Goes p e below s (own_F0 Z x0 x1 x2 x3 x4 n0 h0) room_1.cells room_1.slots (T9.setTop (mkF m 62 #[.val (.int x0), .val (.int x1), .val (.int x2), .val (.int x3), .val (.int x4), .val (.int ((x0 &&& (2147483647 : Int32)) % (5 : Int32))), .val (.ref a1), .unset, .unset] []))
          refine own_Goes.step (fun t k => X9.ldc2J hx hown (mvT hZ (hw _ (List.mem_of_getElem? (i := 2) rfl))) rfl (hb hby at_62) k) ?_
          show own_Goes p e below s (own_F0 Z x0 x1 x2 x3 x4 n0 h0) room_1.cells room_1.slots (T9.setTop (mkF m 65 #[.val (.int x0), .val (.int x1), .val (.int x2), .val (.int x3), .val (.int x4), .val (.int ((x0 &&& (2147483647 : Int32)) % (5 : Int32))), .val (.ref a1), .unset, .unset] [(.long (-3750763034362895579 : Int64))]))
          refine own_Goes.step (fun t k => XT.lstore X9.here hx rfl (hb hby at_65) rfl (l' := #[.val (.int x0), .val (.int x1), .val (.int x2), .val (.int x3), .val (.int x4), .val (.int ((x0 &&& (2147483647 : Int32)) % (5 : Int32))), .val (.ref a1), .val (.long (-3750763034362895579 : Int64)), .second]) rfl k) ?_
          show own_Goes p e below s (own_F0 Z x0 x1 x2 x3 x4 n0 h0) room_1.cells room_1.slots (T9.setTop (mkF m 67 #[.val (.int x0), .val (.int x1), .val (.int x2), .val (.int x3), .val (.int x4), .val (.int ((x0 &&& (2147483647 : Int32)) % (5 : Int32))), .val (.ref a1), .val (.long (-3750763034362895579 : Int64)), .second] []))
          refine own_Goes.step (fun t k => XT.lload X9.here hx rfl (hb hby at_67) rfl k) ?_
          show own_Goes p e below s (own_F0 Z x0 x1 x2 x3 x4 n0 h0) room_1.cells room_1.slots (T9.setTop (mkF m 69 #[.val (.int x0), .val (.int x1), .val (.int x2), .val (.int x3), .val (.int x4), .val (.int ((x0 &&& (2147483647 : Int32)) % (5 : Int32))), .val (.ref a1), .val (.long (-3750763034362895579 : Int64)), .second] [(.long (-3750763034362895579 : Int64))]))
          refine own_Goes.step (fun t k => XS.iloadN X9.here hx rfl (hb hby at_69) rfl k) ?_
          show own_Goes p e below s (own_F0 Z x0 x1 x2 x3 x4 n0 h0) room_1.cells room_1.slots (T9.setTop (mkF m 70 #[.val (.int x0), .val (.int x1), .val (.int x2), .val (.int x3), .val (.int x4), .val (.int ((x0 &&& (2147483647 : Int32)) % (5 : Int32))), .val (.ref a1), .val (.long (-3750763034362895579 : Int64)), .second] [(.int x1), (.long (-3750763034362895579 : Int64))]))
          refine own_Goes.step (fun t k => XS.iload X9.here hx rfl (hb hby at_70) rfl k) ?_
          show own_Goes p e below s (own_F0 Z x0 x1 x2 x3 x4 n0 h0) room_1.cells room_1.slots (T9.setTop (mkF m 72 #[.val (.int x0), .val (.int x1), .val (.int x2), .val (.int x3), .val (.int x4), .val (.int ((x0 &&& (2147483647 : Int32)) % (5 : Int32))), .val (.ref a1), .val (.long (-3750763034362895579 : Int64)), .second] [(.int ((x0 &&& (2147483647 : Int32)) % (5 : Int32))), (.int x1), (.long (-3750763034362895579 : Int64))]))
          refine own_Goes.step (fun t k => XS.ifNo X9.here hx rfl (hb hby at_72) rfl (XT.i0_le_f (hc2)) k) ?_
          show own_Goes p e below s (own_F0 Z x0 x1 x2 x3 x4 n0 h0) room_1.cells room_1.slots (T9.setTop (mkF m 75 #[.val (.int x0), .val (.int x1), .val (.int x2), .val (.int x3), .val (.int x4), .val (.int ((x0 &&& (2147483647 : Int32)) % (5 : Int32))), .val (.ref a1), .val (.long (-3750763034362895579 : Int64)), .second] [(.int x1), (.long (-3750763034362895579 : Int64))]))
          refine own_Goes.step (fun t k => XT.iconstV X9.here hx rfl (1 : Int32) (hb hby at_75) (by decide) k) ?_
          show own_Goes p e below s (own_F0 Z x0 x1 x2 x3 x4 n0 h0) room_1.cells room_1.slots (T9.setTop (mkF m 76 #[.val (.int x0), .val (.int x1), .val (.int x2), .val (.int x3), .val (.int x4), .val (.int ((x0 &&& (2147483647 : Int32)) % (5 : Int32))), .val (.ref a1), .val (.long (-3750763034362895579 : Int64)), .second] [(.int (1 : Int32)), (.int x1), (.long (-3750763034362895579 : Int64))]))
          refine own_Goes.step (fun t k => XS.goto X9.here hx rfl (pc0 := 76) (pc' := 80) rfl (hb hby at_76) (by decide) (by decide) k) ?_
          show own_Goes p e below s (own_F0 Z x0 x1 x2 x3 x4 n0 h0) room_1.cells room_1.slots (T9.setTop (mkF m 80 #[.val (.int x0), .val (.int x1), .val (.int x2), .val (.int x3), .val (.int x4), .val (.int ((x0 &&& (2147483647 : Int32)) % (5 : Int32))), .val (.ref a1), .val (.long (-3750763034362895579 : Int64)), .second] [(.int (1 : Int32)), (.int x1), (.long (-3750763034362895579 : Int64))]))
          obtain ⟨w40, T40, L40, q40, Y40, st40⟩ := own_stat X9 hx hZ e9 hown (hw _ (List.mem_of_getElem? (i := 3) rfl)) (hw _ (List.mem_of_getElem? (i := 4) rfl)) (hw _ (List.mem_of_getElem? (i := 5) rfl)) (hw _ (List.mem_of_getElem? (i := 6) rfl)) (by decide) (own_m1 l Z a0 hw [] (-3750763034362895579 : Int64) x1 (1 : Int32) h9 ) (by decide) (W := 0) (by decide) (by decide) (by decide) (g := (mkF m 80 #[.val (.int x0), .val (.int x1), .val (.int x2), .val (.int x3), .val (.int x4), .val (.int ((x0 &&& (2147483647 : Int32)) % (5 : Int32))), .val (.ref a1), .val (.long (-3750763034362895579 : Int64)), .second] [(.int (1 : Int32)), (.int x1), (.long (-3750763034362895579 : Int64))])) rfl (by rw [hml]; rfl) (argsL := [(.long (-3750763034362895579 : Int64)), (.int x1), (.int (1 : Int32))]) (rest := []) (lenOf pd_1 rfl) rfl (by show 2 * 0 + _ ≤ _; exact Nat.le_of_eq rfl) (hb hby at_80)
          obtain ⟨e40, X40⟩ := own_clean q40 Y40 rfl rfl
          obtain ⟨rfl, -, -⟩ := q40
          refine own_Goes.step st40 ?_
          show own_Goes p e below s (own_F0 Z x0 x1 x2 x3 x4 n0 h0) room_1.cells room_1.slots (T40.setTop (mkF m 83 #[.val (.int x0), .val (.int x1), .val (.int x2), .val (.int x3), .val (.int x4), .val (.int ((x0 &&& (2147483647 : Int32)) % (5 : Int32))), .val (.ref a1), .val (.long (-3750763034362895579 : Int64)), .second] [(.long (own_f1 (-3750763034362895579 : Int64) x1 (1 : Int32)))]))
          refine own_Goes.step (fun t k => XT.lstore X40.here hx rfl (hb hby at_83) rfl (l' := #[.val (.int x0), .val (.int x1), .val (.int x2), .val (.int x3), .val (.int x4), .val (.int ((x0 &&& (2147483647 : Int32)) % (5 : Int32))), .val (.ref a1), .val (.long (own_f1 (-3750763034362895579 : Int64) x1 (1 : Int32))), .second]) rfl k) ?_
          show own_Goes p e below s (own_F0 Z x0 x1 x2 x3 x4 n0 h0) room_1.cells room_1.slots (T40.setTop (mkF m 85 #[.val (.int x0), .val (.int x1), .val (.int x2), .val (.int x3), .val (.int x4), .val (.int ((x0 &&& (2147483647 : Int32)) % (5 : Int32))), .val (.ref a1), .val (.long (own_f1 (-3750763034362895579 : Int64) x1 (1 : Int32))), .second] []))
          refine own_Goes.step (fun t k => XT.lload X40.here hx rfl (hb hby at_85) rfl k) ?_
          show own_Goes p e below s (own_F0 Z x0 x1 x2 x3 x4 n0 h0) room_1.cells room_1.slots (T40.setTop (mkF m 87 #[.val (.int x0), .val (.int x1), .val (.int x2), .val (.int x3), .val (.int x4), .val (.int ((x0 &&& (2147483647 : Int32)) % (5 : Int32))), .val (.ref a1), .val (.long (own_f1 (-3750763034362895579 : Int64) x1 (1 : Int32))), .second] [(.long (own_f1 (-3750763034362895579 : Int64) x1 (1 : Int32)))]))
          refine own_Goes.step (fun t k => XS.iloadN X40.here hx rfl (hb hby at_87) rfl k) ?_
          show own_Goes p e below s (own_F0 Z x0 x1 x2 x3 x4 n0 h0) room_1.cells room_1.slots (T40.setTop (mkF m 88 #[.val (.int x0), .val (.int x1), .val (.int x2), .val (.int x3), .val (.int x4), .val (.int ((x0 &&& (2147483647 : Int32)) % (5 : Int32))), .val (.ref a1), .val (.long (own_f1 (-3750763034362895579 : Int64) x1 (1 : Int32))), .second] [(.int x2), (.long (own_f1 (-3750763034362895579 : Int64) x1 (1 : Int32)))]))
          refine own_Goes.step (fun t k => XS.iload X40.here hx rfl (hb hby at_88) rfl k) ?_
          show own_Goes p e below s (own_F0 Z x0 x1 x2 x3 x4 n0 h0) room_1.cells room_1.slots (T40.setTop (mkF m 90 #[.val (.int x0), .val (.int x1), .val (.int x2), .val (.int x3), .val (.int x4), .val (.int ((x0 &&& (2147483647 : Int32)) % (5 : Int32))), .val (.ref a1), .val (.long (own_f1 (-3750763034362895579 : Int64) x1 (1 : Int32))), .second] [(.int ((x0 &&& (2147483647 : Int32)) % (5 : Int32))), (.int x2), (.long (own_f1 (-3750763034362895579 : Int64) x1 (1 : Int32)))]))
          refine own_Goes.step (fun t k => XT.iconstV X40.here hx rfl (1 : Int32) (hb hby at_90) (by decide) k) ?_
          show own_Goes p e below s (own_F0 Z x0 x1 x2 x3 x4 n0 h0) room_1.cells room_1.slots (T40.setTop (mkF m 91 #[.val (.int x0), .val (.int x1), .val (.int x2), .val (.int x3), .val (.int x4), .val (.int ((x0 &&& (2147483647 : Int32)) % (5 : Int32))), .val (.ref a1), .val (.long (own_f1 (-3750763034362895579 : Int64) x1 (1 : Int32))), .second] [(.int (1 : Int32)), (.int ((x0 &&& (2147483647 : Int32)) % (5 : Int32))), (.int x2), (.long (own_f1 (-3750763034362895579 : Int64) x1 (1 : Int32)))]))
          refine own_Goes.step (fun t k => XS.icmpNo X40.here hx rfl (hb hby at_91) rfl (XT.ii_le_f (hc8)) k) ?_
          show own_Goes p e below s (own_F0 Z x0 x1 x2 x3 x4 n0 h0) room_1.cells room_1.slots (T40.setTop (mkF m 94 #[.val (.int x0), .val (.int x1), .val (.int x2), .val (.int x3), .val (.int x4), .val (.int ((x0 &&& (2147483647 : Int32)) % (5 : Int32))), .val (.ref a1), .val (.long (own_f1 (-3750763034362895579 : Int64) x1 (1 : Int32))), .second] [(.int x2), (.long (own_f1 (-3750763034362895579 : Int64) x1 (1 : Int32)))]))
          refine own_Goes.step (fun t k => XT.iconstV X40.here hx rfl (1 : Int32) (hb hby at_94) (by decide) k) ?_
          show own_Goes p e below s (own_F0 Z x0 x1 x2 x3 x4 n0 h0) room_1.cells room_1.slots (T40.setTop (mkF m 95 #[.val (.int x0), .val (.int x1), .val (.int x2), .val (.int x3), .val (.int x4), .val (.int ((x0 &&& (2147483647 : Int32)) % (5 : Int32))), .val (.ref a1), .val (.long (own_f1 (-3750763034362895579 : Int64) x1 (1 : Int32))), .second] [(.int (1 : Int32)), (.int x2), (.long (own_f1 (-3750763034362895579 : Int64) x1 (1 : Int32)))]))
          refine own_Goes.step (fun t k => XS.goto X40.here hx rfl (pc0 := 95) (pc' := 99) rfl (hb hby at_95) (by decide) (by decide) k) ?_
          show own_Goes p e below s (own_F0 Z x0 x1 x2 x3 x4 n0 h0) room_1.cells room_1.slots (T40.setTop (mkF m 99 #[.val (.int x0), .val (.int x1), .val (.int x2), .val (.int x3), .val (.int x4), .val (.int ((x0 &&& (2147483647 : Int32)) % (5 : Int32))), .val (.ref a1), .val (.long (own_f1 (-3750763034362895579 : Int64) x1 (1 : Int32))), .second] [(.int (1 : Int32)), (.int x2), (.long (own_f1 (-3750763034362895579 : Int64) x1 (1 : Int32)))]))
          obtain ⟨w41, T41, L41, q41, Y41, st41⟩ := own_stat X40 hx hZ e40 hown (hw _ (List.mem_of_getElem? (i := 3) rfl)) (hw _ (List.mem_of_getElem? (i := 4) rfl)) (hw _ (List.mem_of_getElem? (i := 5) rfl)) (hw _ (List.mem_of_getElem? (i := 6) rfl)) (by decide) (own_m1 l Z a0 hw [] (own_f1 (-3750763034362895579 : Int64) x1 (1 : Int32)) x2 (1 : Int32) h9 ) (by decide) (W := 0) (by decide) (by decide) (by decide) (g := (mkF m 99 #[.val (.int x0), .val (.int x1), .val (.int x2), .val (.int x3), .val (.int x4), .val (.int ((x0 &&& (2147483647 : Int32)) % (5 : Int32))), .val (.ref a1), .val (.long (own_f1 (-3750763034362895579 : Int64) x1 (1 : Int32))), .second] [(.int (1 : Int32)), (.int x2), (.long (own_f1 (-3750763034362895579 : Int64) x1 (1 : Int32)))])) rfl (by rw [hml]; rfl) (argsL := [(.long (own_f1 (-3750763034362895579 : Int64) x1 (1 : Int32))), (.int x2), (.int (1 : Int32))]) (rest := []) (lenOf pd_1 rfl) rfl (by show 2 * 0 + _ ≤ _; exact Nat.le_of_eq rfl) (hb hby at_99)
          obtain ⟨e41, X41⟩ := own_clean q41 Y41 rfl rfl
          obtain ⟨rfl, -, -⟩ := q41
          refine own_Goes.step st41 ?_
          show own_Goes p e below s (own_F0 Z x0 x1 x2 x3 x4 n0 h0) room_1.cells room_1.slots (T41.setTop (mkF m 102 #[.val (.int x0), .val (.int x1), .val (.int x2), .val (.int x3), .val (.int x4), .val (.int ((x0 &&& (2147483647 : Int32)) % (5 : Int32))), .val (.ref a1), .val (.long (own_f1 (-3750763034362895579 : Int64) x1 (1 : Int32))), .second] [(.long (own_f1 (own_f1 (-3750763034362895579 : Int64) x1 (1 : Int32)) x2 (1 : Int32)))]))
          refine own_Goes.step (fun t k => XT.lstore X41.here hx rfl (hb hby at_102) rfl (l' := #[.val (.int x0), .val (.int x1), .val (.int x2), .val (.int x3), .val (.int x4), .val (.int ((x0 &&& (2147483647 : Int32)) % (5 : Int32))), .val (.ref a1), .val (.long (own_f0_5 x0 x1 x2 x3 x4)), .second]) rfl k) ?_
          show own_Goes p e below s (own_F0 Z x0 x1 x2 x3 x4 n0 h0) room_1.cells room_1.slots (T41.setTop (mkF m 104 #[.val (.int x0), .val (.int x1), .val (.int x2), .val (.int x3), .val (.int x4), .val (.int ((x0 &&& (2147483647 : Int32)) % (5 : Int32))), .val (.ref a1), .val (.long (own_f0_5 x0 x1 x2 x3 x4)), .second] []))
          refine own_Goes.step (fun t k => XT.lload X41.here hx rfl (hb hby at_104) rfl k) ?_
          show own_Goes p e below s (own_F0 Z x0 x1 x2 x3 x4 n0 h0) room_1.cells room_1.slots (T41.setTop (mkF m 106 #[.val (.int x0), .val (.int x1), .val (.int x2), .val (.int x3), .val (.int x4), .val (.int ((x0 &&& (2147483647 : Int32)) % (5 : Int32))), .val (.ref a1), .val (.long (own_f0_5 x0 x1 x2 x3 x4)), .second] [(.long (own_f0_5 x0 x1 x2 x3 x4))]))
          refine own_Goes.step (fun t k => XS.iloadN X41.here hx rfl (hb hby at_106) rfl k) ?_
          show own_Goes p e below s (own_F0 Z x0 x1 x2 x3 x4 n0 h0) room_1.cells room_1.slots (T41.setTop (mkF m 107 #[.val (.int x0), .val (.int x1), .val (.int x2), .val (.int x3), .val (.int x4), .val (.int ((x0 &&& (2147483647 : Int32)) % (5 : Int32))), .val (.ref a1), .val (.long (own_f0_5 x0 x1 x2 x3 x4)), .second] [(.int x3), (.long (own_f0_5 x0 x1 x2 x3 x4))]))
          refine own_Goes.step (fun t k => XS.iload X41.here hx rfl (hb hby at_107) rfl k) ?_
          show own_Goes p e below s (own_F0 Z x0 x1 x2 x3 x4 n0 h0) room_1.cells room_1.slots (T41.setTop (mkF m 109 #[.val (.int x0), .val (.int x1), .val (.int x2), .val (.int x3), .val (.int x4), .val (.int ((x0 &&& (2147483647 : Int32)) % (5 : Int32))), .val (.ref a1), .val (.long (own_f0_5 x0 x1 x2 x3 x4)), .second] [(.int ((x0 &&& (2147483647 : Int32)) % (5 : Int32))), (.int x3), (.long (own_f0_5 x0 x1 x2 x3 x4))]))
          refine own_Goes.step (fun t k => XT.iconstV X41.here hx rfl (2 : Int32) (hb hby at_109) (by decide) k) ?_
          show own_Goes p e below s (own_F0 Z x0 x1 x2 x3 x4 n0 h0) room_1.cells room_1.slots (T41.setTop (mkF m 110 #[.val (.int x0), .val (.int x1), .val (.int x2), .val (.int x3), .val (.int x4), .val (.int ((x0 &&& (2147483647 : Int32)) % (5 : Int32))), .val (.ref a1), .val (.long (own_f0_5 x0 x1 x2 x3 x4)), .second] [(.int (2 : Int32)), (.int ((x0 &&& (2147483647 : Int32)) % (5 : Int32))), (.int x3), (.long (own_f0_5 x0 x1 x2 x3 x4))]))
          refine own_Goes.step (fun t k => XS.icmpYes X41.here hx rfl (pc0 := 110) (pc' := 117) rfl (hb hby at_110) rfl (XT.ii_le_t (hc14)) (by decide) (by decide) k) ?_
          show own_Goes p e below s (own_F0 Z x0 x1 x2 x3 x4 n0 h0) room_1.cells room_1.slots (T41.setTop (mkF m 117 #[.val (.int x0), .val (.int x1), .val (.int x2), .val (.int x3), .val (.int x4), .val (.int ((x0 &&& (2147483647 : Int32)) % (5 : Int32))), .val (.ref a1), .val (.long (own_f0_5 x0 x1 x2 x3 x4)), .second] [(.int x3), (.long (own_f0_5 x0 x1 x2 x3 x4))]))
          refine own_Goes.step (fun t k => XT.iconstV X41.here hx rfl (0 : Int32) (hb hby at_117) (by decide) k) ?_
          show own_Goes p e below s (own_F0 Z x0 x1 x2 x3 x4 n0 h0) room_1.cells room_1.slots (T41.setTop (mkF m 118 #[.val (.int x0), .val (.int x1), .val (.int x2), .val (.int x3), .val (.int x4), .val (.int ((x0 &&& (2147483647 : Int32)) % (5 : Int32))), .val (.ref a1), .val (.long (own_f0_5 x0 x1 x2 x3 x4)), .second] [(.int (0 : Int32)), (.int x3), (.long (own_f0_5 x0 x1 x2 x3 x4))]))
          obtain ⟨w42, T42, L42, q42, Y42, st42⟩ := own_stat X41 hx hZ e41 hown (hw _ (List.mem_of_getElem? (i := 3) rfl)) (hw _ (List.mem_of_getElem? (i := 4) rfl)) (hw _ (List.mem_of_getElem? (i := 5) rfl)) (hw _ (List.mem_of_getElem? (i := 6) rfl)) (by decide) (own_m1 l Z a0 hw [] (own_f0_5 x0 x1 x2 x3 x4) x3 (0 : Int32) h9 ) (by decide) (W := 0) (by decide) (by decide) (by decide) (g := (mkF m 118 #[.val (.int x0), .val (.int x1), .val (.int x2), .val (.int x3), .val (.int x4), .val (.int ((x0 &&& (2147483647 : Int32)) % (5 : Int32))), .val (.ref a1), .val (.long (own_f0_5 x0 x1 x2 x3 x4)), .second] [(.int (0 : Int32)), (.int x3), (.long (own_f0_5 x0 x1 x2 x3 x4))])) rfl (by rw [hml]; rfl) (argsL := [(.long (own_f0_5 x0 x1 x2 x3 x4)), (.int x3), (.int (0 : Int32))]) (rest := []) (lenOf pd_1 rfl) rfl (by show 2 * 0 + _ ≤ _; exact Nat.le_of_eq rfl) (hb hby at_118)
          obtain ⟨e42, X42⟩ := own_clean q42 Y42 rfl rfl
          obtain ⟨rfl, -, -⟩ := q42
          refine own_Goes.step st42 ?_
          show own_Goes p e below s (own_F0 Z x0 x1 x2 x3 x4 n0 h0) room_1.cells room_1.slots (T42.setTop (mkF m 121 #[.val (.int x0), .val (.int x1), .val (.int x2), .val (.int x3), .val (.int x4), .val (.int ((x0 &&& (2147483647 : Int32)) % (5 : Int32))), .val (.ref a1), .val (.long (own_f0_5 x0 x1 x2 x3 x4)), .second] [(.long (own_f1 (own_f0_5 x0 x1 x2 x3 x4) x3 (0 : Int32)))]))
          refine own_Goes.step (fun t k => XT.lstore X42.here hx rfl (hb hby at_121) rfl (l' := #[.val (.int x0), .val (.int x1), .val (.int x2), .val (.int x3), .val (.int x4), .val (.int ((x0 &&& (2147483647 : Int32)) % (5 : Int32))), .val (.ref a1), .val (.long (own_f1 (own_f0_5 x0 x1 x2 x3 x4) x3 (0 : Int32))), .second]) rfl k) ?_
          show own_Goes p e below s (own_F0 Z x0 x1 x2 x3 x4 n0 h0) room_1.cells room_1.slots (T42.setTop (mkF m 123 #[.val (.int x0), .val (.int x1), .val (.int x2), .val (.int x3), .val (.int x4), .val (.int ((x0 &&& (2147483647 : Int32)) % (5 : Int32))), .val (.ref a1), .val (.long (own_f1 (own_f0_5 x0 x1 x2 x3 x4) x3 (0 : Int32))), .second] []))
          refine own_Goes.step (fun t k => XT.lload X42.here hx rfl (hb hby at_123) rfl k) ?_
          show own_Goes p e below s (own_F0 Z x0 x1 x2 x3 x4 n0 h0) room_1.cells room_1.slots (T42.setTop (mkF m 125 #[.val (.int x0), .val (.int x1), .val (.int x2), .val (.int x3), .val (.int x4), .val (.int ((x0 &&& (2147483647 : Int32)) % (5 : Int32))), .val (.ref a1), .val (.long (own_f1 (own_f0_5 x0 x1 x2 x3 x4) x3 (0 : Int32))), .second] [(.long (own_f1 (own_f0_5 x0 x1 x2 x3 x4) x3 (0 : Int32)))]))
          refine own_Goes.step (fun t k => XS.iload X42.here hx rfl (hb hby at_125) rfl k) ?_
          show own_Goes p e below s (own_F0 Z x0 x1 x2 x3 x4 n0 h0) room_1.cells room_1.slots (T42.setTop (mkF m 127 #[.val (.int x0), .val (.int x1), .val (.int x2), .val (.int x3), .val (.int x4), .val (.int ((x0 &&& (2147483647 : Int32)) % (5 : Int32))), .val (.ref a1), .val (.long (own_f1 (own_f0_5 x0 x1 x2 x3 x4) x3 (0 : Int32))), .second] [(.int x4), (.long (own_f1 (own_f0_5 x0 x1 x2 x3 x4) x3 (0 : Int32)))]))
          refine own_Goes.step (fun t k => XS.iload X42.here hx rfl (hb hby at_127) rfl k) ?_
          show own_Goes p e below s (own_F0 Z x0 x1 x2 x3 x4 n0 h0) room_1.cells room_1.slots (T42.setTop (mkF m 129 #[.val (.int x0), .val (.int x1), .val (.int x2), .val (.int x3), .val (.int x4), .val (.int ((x0 &&& (2147483647 : Int32)) % (5 : Int32))), .val (.ref a1), .val (.long (own_f1 (own_f0_5 x0 x1 x2 x3 x4) x3 (0 : Int32))), .second] [(.int ((x0 &&& (2147483647 : Int32)) % (5 : Int32))), (.int x4), (.long (own_f1 (own_f0_5 x0 x1 x2 x3 x4) x3 (0 : Int32)))]))
          refine own_Goes.step (fun t k => XT.iconstV X42.here hx rfl (3 : Int32) (hb hby at_129) (by decide) k) ?_
          show own_Goes p e below s (own_F0 Z x0 x1 x2 x3 x4 n0 h0) room_1.cells room_1.slots (T42.setTop (mkF m 130 #[.val (.int x0), .val (.int x1), .val (.int x2), .val (.int x3), .val (.int x4), .val (.int ((x0 &&& (2147483647 : Int32)) % (5 : Int32))), .val (.ref a1), .val (.long (own_f1 (own_f0_5 x0 x1 x2 x3 x4) x3 (0 : Int32))), .second] [(.int (3 : Int32)), (.int ((x0 &&& (2147483647 : Int32)) % (5 : Int32))), (.int x4), (.long (own_f1 (own_f0_5 x0 x1 x2 x3 x4) x3 (0 : Int32)))]))
          refine own_Goes.step (fun t k => XS.icmpYes X42.here hx rfl (pc0 := 130) (pc' := 137) rfl (hb hby at_130) rfl (XT.ii_le_t (own_nlt (by decide) hc14)) (by decide) (by decide) k) ?_
          show own_Goes p e below s (own_F0 Z x0 x1 x2 x3 x4 n0 h0) room_1.cells room_1.slots (T42.setTop (mkF m 137 #[.val (.int x0), .val (.int x1), .val (.int x2), .val (.int x3), .val (.int x4), .val (.int ((x0 &&& (2147483647 : Int32)) % (5 : Int32))), .val (.ref a1), .val (.long (own_f1 (own_f0_5 x0 x1 x2 x3 x4) x3 (0 : Int32))), .second] [(.int x4), (.long (own_f1 (own_f0_5 x0 x1 x2 x3 x4) x3 (0 : Int32)))]))
          refine own_Goes.step (fun t k => XT.iconstV X42.here hx rfl (0 : Int32) (hb hby at_137) (by decide) k) ?_
          show own_Goes p e below s (own_F0 Z x0 x1 x2 x3 x4 n0 h0) room_1.cells room_1.slots (T42.setTop (mkF m 138 #[.val (.int x0), .val (.int x1), .val (.int x2), .val (.int x3), .val (.int x4), .val (.int ((x0 &&& (2147483647 : Int32)) % (5 : Int32))), .val (.ref a1), .val (.long (own_f1 (own_f0_5 x0 x1 x2 x3 x4) x3 (0 : Int32))), .second] [(.int (0 : Int32)), (.int x4), (.long (own_f1 (own_f0_5 x0 x1 x2 x3 x4) x3 (0 : Int32)))]))
          obtain ⟨w43, T43, L43, q43, Y43, st43⟩ := own_stat X42 hx hZ e42 hown (hw _ (List.mem_of_getElem? (i := 3) rfl)) (hw _ (List.mem_of_getElem? (i := 4) rfl)) (hw _ (List.mem_of_getElem? (i := 5) rfl)) (hw _ (List.mem_of_getElem? (i := 6) rfl)) (by decide) (own_m1 l Z a0 hw [] (own_f1 (own_f0_5 x0 x1 x2 x3 x4) x3 (0 : Int32)) x4 (0 : Int32) h9 ) (by decide) (W := 0) (by decide) (by decide) (by decide) (g := (mkF m 138 #[.val (.int x0), .val (.int x1), .val (.int x2), .val (.int x3), .val (.int x4), .val (.int ((x0 &&& (2147483647 : Int32)) % (5 : Int32))), .val (.ref a1), .val (.long (own_f1 (own_f0_5 x0 x1 x2 x3 x4) x3 (0 : Int32))), .second] [(.int (0 : Int32)), (.int x4), (.long (own_f1 (own_f0_5 x0 x1 x2 x3 x4) x3 (0 : Int32)))])) rfl (by rw [hml]; rfl) (argsL := [(.long (own_f1 (own_f0_5 x0 x1 x2 x3 x4) x3 (0 : Int32))), (.int x4), (.int (0 : Int32))]) (rest := []) (lenOf pd_1 rfl) rfl (by show 2 * 0 + _ ≤ _; exact Nat.le_of_eq rfl) (hb hby at_138)
          obtain ⟨e43, X43⟩ := own_clean q43 Y43 rfl rfl
          obtain ⟨rfl, -, -⟩ := q43
          refine own_Goes.step st43 ?_
          show own_Goes p e below s (own_F0 Z x0 x1 x2 x3 x4 n0 h0) room_1.cells room_1.slots (T43.setTop (mkF m 141 #[.val (.int x0), .val (.int x1), .val (.int x2), .val (.int x3), .val (.int x4), .val (.int ((x0 &&& (2147483647 : Int32)) % (5 : Int32))), .val (.ref a1), .val (.long (own_f1 (own_f0_5 x0 x1 x2 x3 x4) x3 (0 : Int32))), .second] [(.long (own_f1 (own_f1 (own_f0_5 x0 x1 x2 x3 x4) x3 (0 : Int32)) x4 (0 : Int32)))]))
          refine own_Goes.step (fun t k => XT.lstore X43.here hx rfl (hb hby at_141) rfl (l' := #[.val (.int x0), .val (.int x1), .val (.int x2), .val (.int x3), .val (.int x4), .val (.int ((x0 &&& (2147483647 : Int32)) % (5 : Int32))), .val (.ref a1), .val (.long (own_f0_8 x0 x1 x2 x3 x4)), .second]) rfl k) ?_
          show own_Goes p e below s (own_F0 Z x0 x1 x2 x3 x4 n0 h0) room_1.cells room_1.slots (T43.setTop (mkF m 143 #[.val (.int x0), .val (.int x1), .val (.int x2), .val (.int x3), .val (.int x4), .val (.int ((x0 &&& (2147483647 : Int32)) % (5 : Int32))), .val (.ref a1), .val (.long (own_f0_8 x0 x1 x2 x3 x4)), .second] []))
          refine own_Goes.step (fun t k => XS.aload X43.here hx rfl (hb hby at_143) rfl rfl k) ?_
          show own_Goes p e below s (own_F0 Z x0 x1 x2 x3 x4 n0 h0) room_1.cells room_1.slots (T43.setTop (mkF m 145 #[.val (.int x0), .val (.int x1), .val (.int x2), .val (.int x3), .val (.int x4), .val (.int ((x0 &&& (2147483647 : Int32)) % (5 : Int32))), .val (.ref a1), .val (.long (own_f0_8 x0 x1 x2 x3 x4)), .second] [(.ref a1)]))
          obtain ⟨w44, T44, L44, q44, Y44, st44⟩ := own_stat X43 hx hZ e43 hown (hw _ (List.mem_of_getElem? (i := 7) rfl)) (hw _ (List.mem_of_getElem? (i := 8) rfl)) (hw _ (List.mem_of_getElem? (i := 9) rfl)) (hw _ (List.mem_of_getElem? (i := 10) rfl)) (by decide) (own_m2 l Z a0 hw [] a1 (own_n x0) (own_f0_2 x0 x1 x2 x3 x4) n0 h9 f10 (Nat.lt_of_le_of_lt (own_n4 x0) (by decide))) (by decide) (W := 0) (by decide) (by decide) (by decide) (g := (mkF m 145 #[.val (.int x0), .val (.int x1), .val (.int x2), .val (.int x3), .val (.int x4), .val (.int ((x0 &&& (2147483647 : Int32)) % (5 : Int32))), .val (.ref a1), .val (.long (own_f0_8 x0 x1 x2 x3 x4)), .second] [(.ref a1)])) rfl (by rw [hml]; rfl) (argsL := [(.ref a1)]) (rest := []) (lenOf pd_2 rfl) rfl (by show 2 * 0 + _ ≤ _; exact Nat.le_of_eq rfl) (hb hby at_145)
          obtain ⟨e44, X44⟩ := own_clean q44 Y44 rfl rfl
          obtain ⟨rfl, -, -⟩ := q44
          refine own_Goes.step st44 ?_
          show own_Goes p e below s (own_F0 Z x0 x1 x2 x3 x4 n0 h0) room_1.cells room_1.slots (T44.setTop (mkF m 148 #[.val (.int x0), .val (.int x1), .val (.int x2), .val (.int x3), .val (.int x4), .val (.int ((x0 &&& (2147483647 : Int32)) % (5 : Int32))), .val (.ref a1), .val (.long (own_f0_8 x0 x1 x2 x3 x4)), .second] [(.long (own_hash (own_f0_2 x0 x1 x2 x3 x4) (own_n x0)))]))
          refine own_Goes.step (fun t k => XT.lload X44.here hx rfl (hb hby at_148) rfl k) ?_
          show own_Goes p e below s (own_F0 Z x0 x1 x2 x3 x4 n0 h0) room_1.cells room_1.slots (T44.setTop (mkF m 150 #[.val (.int x0), .val (.int x1), .val (.int x2), .val (.int x3), .val (.int x4), .val (.int ((x0 &&& (2147483647 : Int32)) % (5 : Int32))), .val (.ref a1), .val (.long (own_f0_8 x0 x1 x2 x3 x4)), .second] [(.long (own_f0_8 x0 x1 x2 x3 x4)), (.long (own_hash (own_f0_2 x0 x1 x2 x3 x4) (own_n x0)))]))
          obtain ⟨w45, T45, L45, q45, Y45, st45⟩ := own_stat X44 hx hZ e44 hown (hw _ (List.mem_of_getElem? (i := 14) rfl)) (hw _ (List.mem_of_getElem? (i := 15) rfl)) (hw _ (List.mem_of_getElem? (i := 5) rfl)) (hw _ (List.mem_of_getElem? (i := 16) rfl)) (by decide) (own_m3 l Z a0 hw [] (own_f0_8 x0 x1 x2 x3 x4) h9 ) (by decide) (W := 2) (by decide) (by decide) (by decide) (g := (mkF m 150 #[.val (.int x0), .val (.int x1), .val (.int x2), .val (.int x3), .val (.int x4), .val (.int ((x0 &&& (2147483647 : Int32)) % (5 : Int32))), .val (.ref a1), .val (.long (own_f0_8 x0 x1 x2 x3 x4)), .second] [(.long (own_f0_8 x0 x1 x2 x3 x4)), (.long (own_hash (own_f0_2 x0 x1 x2 x3 x4) (own_n x0)))])) rfl (by rw [hml]; rfl) (argsL := [(.long (own_f0_8 x0 x1 x2 x3 x4))]) (rest := [(.long (own_hash (own_f0_2 x0 x1 x2 x3 x4) (own_n x0)))]) (lenOf pd_3 rfl) rfl (by show 2 * 0 + _ ≤ _; exact Nat.le_of_eq rfl) (hb hby at_150)
          obtain ⟨e45, X45⟩ := own_clean q45 Y45 rfl rfl
          obtain ⟨rfl, -, -⟩ := q45
          refine own_Goes.step st45 ?_
          show own_Goes p e below s (own_F0 Z x0 x1 x2 x3 x4 n0 h0) room_1.cells room_1.slots (T45.setTop (mkF m 153 #[.val (.int x0), .val (.int x1), .val (.int x2), .val (.int x3), .val (.int x4), .val (.int ((x0 &&& (2147483647 : Int32)) % (5 : Int32))), .val (.ref a1), .val (.long (own_f0_8 x0 x1 x2 x3 x4)), .second] [(.long (own_f3 (own_f0_8 x0 x1 x2 x3 x4))), (.long (own_hash (own_f0_2 x0 x1 x2 x3 x4) (own_n x0)))]))
          refine own_Goes.step (fun t k => XT.lcmp X45.here hx rfl (hb hby at_153) rfl k) ?_
          show own_Goes p e below s (own_F0 Z x0 x1 x2 x3 x4 n0 h0) room_1.cells room_1.slots (T45.setTop (mkF m 154 #[.val (.int x0), .val (.int x1), .val (.int x2), .val (.int x3), .val (.int x4), .val (.int ((x0 &&& (2147483647 : Int32)) % (5 : Int32))), .val (.ref a1), .val (.long (own_f0_8 x0 x1 x2 x3 x4)), .second] [(.int (XT.cmpL (own_hash (own_f0_2 x0 x1 x2 x3 x4) (own_n x0)) (own_f3 (own_f0_8 x0 x1 x2 x3 x4))))]))
          by_cases hc46 : (own_hash (own_f0_2 x0 x1 x2 x3 x4) (own_n x0)) = (own_f3 (own_f0_8 x0 x1 x2 x3 x4))
          · refine own_Goes.step (fun t k => XS.ifNo X45.here hx rfl (hb hby at_154) rfl (XT.ll_ne_f hc46) k) ?_
            show own_Goes p e below s (own_F0 Z x0 x1 x2 x3 x4 n0 h0) room_1.cells room_1.slots (T45.setTop (mkF m 157 #[.val (.int x0), .val (.int x1), .val (.int x2), .val (.int x3), .val (.int x4), .val (.int ((x0 &&& (2147483647 : Int32)) % (5 : Int32))), .val (.ref a1), .val (.long (own_f0_8 x0 x1 x2 x3 x4)), .second] []))
            refine own_Goes.step (fun t k => XT.iconstV X45.here hx rfl (1 : Int32) (hb hby at_157) (by decide) k) ?_
            show own_Goes p e below s (own_F0 Z x0 x1 x2 x3 x4 n0 h0) room_1.cells room_1.slots (T45.setTop (mkF m 158 #[.val (.int x0), .val (.int x1), .val (.int x2), .val (.int x3), .val (.int x4), .val (.int ((x0 &&& (2147483647 : Int32)) % (5 : Int32))), .val (.ref a1), .val (.long (own_f0_8 x0 x1 x2 x3 x4)), .second] [(.int (1 : Int32))]))
            refine own_Goes.step (fun t k => XS.goto X45.here hx rfl (pc0 := 158) (pc' := 162) rfl (hb hby at_158) (by decide) (by decide) k) ?_
            show own_Goes p e below s (own_F0 Z x0 x1 x2 x3 x4 n0 h0) room_1.cells room_1.slots (T45.setTop (mkF m 162 #[.val (.int x0), .val (.int x1), .val (.int x2), .val (.int x3), .val (.int x4), .val (.int ((x0 &&& (2147483647 : Int32)) % (5 : Int32))), .val (.ref a1), .val (.long (own_f0_8 x0 x1 x2 x3 x4)), .second] [(.int (1 : Int32))]))
            exact own_endN X45 hx Bd.notSynchronized (t := .boolean) Bd.returns (by simp) (hb hby at_162) ⟨(congrArg (fun z => some (Value.int z)) (show (1 : Int32) = own_f0 x0 x1 x2 x3 x4 from by simp only [own_f0, if_pos hc2, if_pos hc8, if_neg hc14, if_pos hc46])), N12⟩ (by decide) (by decide)
          · refine own_Goes.step (fun t k => XS.ifYes X45.here hx rfl (pc0 := 154) (pc' := 161) rfl (hb hby at_154) rfl (XT.ll_ne_t hc46) (by decide) (by decide) k) ?_
            show own_Goes p e below s (own_F0 Z x0 x1 x2 x3 x4 n0 h0) room_1.cells room_1.slots (T45.setTop (mkF m 161 #[.val (.int x0), .val (.int x1), .val (.int x2), .val (.int x3), .val (.int x4), .val (.int ((x0 &&& (2147483647 : Int32)) % (5 : Int32))), .val (.ref a1), .val (.long (own_f0_8 x0 x1 x2 x3 x4)), .second] []))
            refine own_Goes.step (fun t k => XT.iconstV X45.here hx rfl (0 : Int32) (hb hby at_161) (by decide) k) ?_
            show own_Goes p e below s (own_F0 Z x0 x1 x2 x3 x4 n0 h0) room_1.cells room_1.slots (T45.setTop (mkF m 162 #[.val (.int x0), .val (.int x1), .val (.int x2), .val (.int x3), .val (.int x4), .val (.int ((x0 &&& (2147483647 : Int32)) % (5 : Int32))), .val (.ref a1), .val (.long (own_f0_8 x0 x1 x2 x3 x4)), .second] [(.int (0 : Int32))]))
            exact own_endN X45 hx Bd.notSynchronized (t := .boolean) Bd.returns (by simp) (hb hby at_162) ⟨(congrArg (fun z => some (Value.int z)) (show (0 : Int32) = own_f0 x0 x1 x2 x3 x4 from by simp only [own_f0, if_pos hc2, if_pos hc8, if_neg hc14, if_neg hc46])), N12⟩ (by decide) (by decide)
      · refine own_Goes.step (fun t k => XS.icmpYes X3.here hx rfl (pc0 := 28) (pc' := 37) rfl (hb hby at_28) rfl (XT.ii_le_t hc8) (by decide) (by decide) k) ?_
        show own_Goes p e below s (own_F0 Z x0 x1 x2 x3 x4 n0 h0) room_1.cells room_1.slots (T3.setTop (mkF m 37 #[.val (.int x0), .val (.int x1), .val (.int x2), .val (.int x3), .val (.int x4), .val (.int ((x0 &&& (2147483647 : Int32)) % (5 : Int32))), .val (.ref a1), .unset, .unset] []))
        refine own_Goes.step (fun t k => XS.iload X3.here hx rfl (hb hby at_37) rfl k) ?_
        show own_Goes p e below s (own_F0 Z x0 x1 x2 x3 x4 n0 h0) room_1.cells room_1.slots (T3.setTop (mkF m 39 #[.val (.int x0), .val (.int x1), .val (.int x2), .val (.int x3), .val (.int x4), .val (.int ((x0 &&& (2147483647 : Int32)) % (5 : Int32))), .val (.ref a1), .unset, .unset] [(.int ((x0 &&& (2147483647 : Int32)) % (5 : Int32)))]))
        refine own_Goes.step (fun t k => XT.iconstV X3.here hx rfl (2 : Int32) (hb hby at_39) (by decide) k) ?_
        show own_Goes p e below s (own_F0 Z x0 x1 x2 x3 x4 n0 h0) room_1.cells room_1.slots (T3.setTop (mkF m 40 #[.val (.int x0), .val (.int x1), .val (.int x2), .val (.int x3), .val (.int x4), .val (.int ((x0 &&& (2147483647 : Int32)) % (5 : Int32))), .val (.ref a1), .unset, .unset] [(.int (2 : Int32)), (.int ((x0 &&& (2147483647 : Int32)) % (5 : Int32)))]))
        refine own_Goes.step (fun t k => XS.icmpYes X3.here hx rfl (pc0 := 40) (pc' := 49) rfl (hb hby at_40) rfl (XT.ii_le_t (own_nlt (by decide) hc8)) (by decide) (by decide) k) ?_
        show own_Goes p e below s (own_F0 Z x0 x1 x2 x3 x4 n0 h0) room_1.cells room_1.slots (T3.setTop (mkF m 49 #[.val (.int x0), .val (.int x1), .val (.int x2), .val (.int x3), .val (.int x4), .val (.int ((x0 &&& (2147483647 : Int32)) % (5 : Int32))), .val (.ref a1), .unset, .unset] []))
        refine own_Goes.step (fun t k => XS.iload X3.here hx rfl (hb hby at_49) rfl k) ?_
        show own_Goes p e below s (own_F0 Z x0 x1 x2 x3 x4 n0 h0) room_1.cells room_1.slots (T3.setTop (mkF m 51 #[.val (.int x0), .val (.int x1), .val (.int x2), .val (.int x3), .val (.int x4), .val (.int ((x0 &&& (2147483647 : Int32)) % (5 : Int32))), .val (.ref a1), .unset, .unset] [(.int ((x0 &&& (2147483647 : Int32)) % (5 : Int32)))]))
        refine own_Goes.step (fun t k => XT.iconstV X3.here hx rfl (3 : Int32) (hb hby at_51) (by decide) k) ?_
        show own_Goes p e below s (own_F0 Z x0 x1 x2 x3 x4 n0 h0) room_1.cells room_1.slots (T3.setTop (mkF m 52 #[.val (.int x0), .val (.int x1), .val (.int x2), .val (.int x3), .val (.int x4), .val (.int ((x0 &&& (2147483647 : Int32)) % (5 : Int32))), .val (.ref a1), .unset, .unset] [(.int (3 : Int32)), (.int ((x0 &&& (2147483647 : Int32)) % (5 : Int32)))]))
        refine own_Goes.step (fun t k => XS.icmpYes X3.here hx rfl (pc0 := 52) (pc' := 62) rfl (hb hby at_52) rfl (XT.ii_le_t (own_nlt (by decide) hc8)) (by decide) (by decide) k) ?_
        show own_Goes p e below s (own_F0 Z x0 x1 x2 x3 x4 n0 h0) room_1.cells room_1.slots (T3.setTop (mkF m 62 #[.val (.int x0), .val (.int x1), .val (.int x2), .val (.int x3), .val (.int x4), .val (.int ((x0 &&& (2147483647 : Int32)) % (5 : Int32))), .val (.ref a1), .unset, .unset] []))
        refine own_Goes.step (fun t k => X3.ldc2J hx hown (mvT hZ (hw _ (List.mem_of_getElem? (i := 2) rfl))) rfl (hb hby at_62) k) ?_
        show own_Goes p e below s (own_F0 Z x0 x1 x2 x3 x4 n0 h0) room_1.cells room_1.slots (T3.setTop (mkF m 65 #[.val (.int x0), .val (.int x1), .val (.int x2), .val (.int x3), .val (.int x4), .val (.int ((x0 &&& (2147483647 : Int32)) % (5 : Int32))), .val (.ref a1), .unset, .unset] [(.long (-3750763034362895579 : Int64))]))
        refine own_Goes.step (fun t k => XT.lstore X3.here hx rfl (hb hby at_65) rfl (l' := #[.val (.int x0), .val (.int x1), .val (.int x2), .val (.int x3), .val (.int x4), .val (.int ((x0 &&& (2147483647 : Int32)) % (5 : Int32))), .val (.ref a1), .val (.long (-3750763034362895579 : Int64)), .second]) rfl k) ?_
        show own_Goes p e below s (own_F0 Z x0 x1 x2 x3 x4 n0 h0) room_1.cells room_1.slots (T3.setTop (mkF m 67 #[.val (.int x0), .val (.int x1), .val (.int x2), .val (.int x3), .val (.int x4), .val (.int ((x0 &&& (2147483647 : Int32)) % (5 : Int32))), .val (.ref a1), .val (.long (-3750763034362895579 : Int64)), .second] []))
        refine own_Goes.step (fun t k => XT.lload X3.here hx rfl (hb hby at_67) rfl k) ?_
        show own_Goes p e below s (own_F0 Z x0 x1 x2 x3 x4 n0 h0) room_1.cells room_1.slots (T3.setTop (mkF m 69 #[.val (.int x0), .val (.int x1), .val (.int x2), .val (.int x3), .val (.int x4), .val (.int ((x0 &&& (2147483647 : Int32)) % (5 : Int32))), .val (.ref a1), .val (.long (-3750763034362895579 : Int64)), .second] [(.long (-3750763034362895579 : Int64))]))
        refine own_Goes.step (fun t k => XS.iloadN X3.here hx rfl (hb hby at_69) rfl k) ?_
        show own_Goes p e below s (own_F0 Z x0 x1 x2 x3 x4 n0 h0) room_1.cells room_1.slots (T3.setTop (mkF m 70 #[.val (.int x0), .val (.int x1), .val (.int x2), .val (.int x3), .val (.int x4), .val (.int ((x0 &&& (2147483647 : Int32)) % (5 : Int32))), .val (.ref a1), .val (.long (-3750763034362895579 : Int64)), .second] [(.int x1), (.long (-3750763034362895579 : Int64))]))
        refine own_Goes.step (fun t k => XS.iload X3.here hx rfl (hb hby at_70) rfl k) ?_
        show own_Goes p e below s (own_F0 Z x0 x1 x2 x3 x4 n0 h0) room_1.cells room_1.slots (T3.setTop (mkF m 72 #[.val (.int x0), .val (.int x1), .val (.int x2), .val (.int x3), .val (.int x4), .val (.int ((x0 &&& (2147483647 : Int32)) % (5 : Int32))), .val (.ref a1), .val (.long (-3750763034362895579 : Int64)), .second] [(.int ((x0 &&& (2147483647 : Int32)) % (5 : Int32))), (.int x1), (.long (-3750763034362895579 : Int64))]))
        refine own_Goes.step (fun t k => XS.ifNo X3.here hx rfl (hb hby at_72) rfl (XT.i0_le_f (hc2)) k) ?_
        show own_Goes p e below s (own_F0 Z x0 x1 x2 x3 x4 n0 h0) room_1.cells room_1.slots (T3.setTop (mkF m 75 #[.val (.int x0), .val (.int x1), .val (.int x2), .val (.int x3), .val (.int x4), .val (.int ((x0 &&& (2147483647 : Int32)) % (5 : Int32))), .val (.ref a1), .val (.long (-3750763034362895579 : Int64)), .second] [(.int x1), (.long (-3750763034362895579 : Int64))]))
        refine own_Goes.step (fun t k => XT.iconstV X3.here hx rfl (1 : Int32) (hb hby at_75) (by decide) k) ?_
        show own_Goes p e below s (own_F0 Z x0 x1 x2 x3 x4 n0 h0) room_1.cells room_1.slots (T3.setTop (mkF m 76 #[.val (.int x0), .val (.int x1), .val (.int x2), .val (.int x3), .val (.int x4), .val (.int ((x0 &&& (2147483647 : Int32)) % (5 : Int32))), .val (.ref a1), .val (.long (-3750763034362895579 : Int64)), .second] [(.int (1 : Int32)), (.int x1), (.long (-3750763034362895579 : Int64))]))
        refine own_Goes.step (fun t k => XS.goto X3.here hx rfl (pc0 := 76) (pc' := 80) rfl (hb hby at_76) (by decide) (by decide) k) ?_
        show own_Goes p e below s (own_F0 Z x0 x1 x2 x3 x4 n0 h0) room_1.cells room_1.slots (T3.setTop (mkF m 80 #[.val (.int x0), .val (.int x1), .val (.int x2), .val (.int x3), .val (.int x4), .val (.int ((x0 &&& (2147483647 : Int32)) % (5 : Int32))), .val (.ref a1), .val (.long (-3750763034362895579 : Int64)), .second] [(.int (1 : Int32)), (.int x1), (.long (-3750763034362895579 : Int64))]))
        obtain ⟨w47, T47, L47, q47, Y47, st47⟩ := own_stat X3 hx hZ e3 hown (hw _ (List.mem_of_getElem? (i := 3) rfl)) (hw _ (List.mem_of_getElem? (i := 4) rfl)) (hw _ (List.mem_of_getElem? (i := 5) rfl)) (hw _ (List.mem_of_getElem? (i := 6) rfl)) (by decide) (own_m1 l Z a0 hw [] (-3750763034362895579 : Int64) x1 (1 : Int32) h3 ) (by decide) (W := 0) (by decide) (by decide) (by decide) (g := (mkF m 80 #[.val (.int x0), .val (.int x1), .val (.int x2), .val (.int x3), .val (.int x4), .val (.int ((x0 &&& (2147483647 : Int32)) % (5 : Int32))), .val (.ref a1), .val (.long (-3750763034362895579 : Int64)), .second] [(.int (1 : Int32)), (.int x1), (.long (-3750763034362895579 : Int64))])) rfl (by rw [hml]; rfl) (argsL := [(.long (-3750763034362895579 : Int64)), (.int x1), (.int (1 : Int32))]) (rest := []) (lenOf pd_1 rfl) rfl (by show 2 * 0 + _ ≤ _; exact Nat.le_of_eq rfl) (hb hby at_80)
        obtain ⟨e47, X47⟩ := own_clean q47 Y47 rfl rfl
        obtain ⟨rfl, -, -⟩ := q47
        refine own_Goes.step st47 ?_
        show own_Goes p e below s (own_F0 Z x0 x1 x2 x3 x4 n0 h0) room_1.cells room_1.slots (T47.setTop (mkF m 83 #[.val (.int x0), .val (.int x1), .val (.int x2), .val (.int x3), .val (.int x4), .val (.int ((x0 &&& (2147483647 : Int32)) % (5 : Int32))), .val (.ref a1), .val (.long (-3750763034362895579 : Int64)), .second] [(.long (own_f1 (-3750763034362895579 : Int64) x1 (1 : Int32)))]))
        refine own_Goes.step (fun t k => XT.lstore X47.here hx rfl (hb hby at_83) rfl (l' := #[.val (.int x0), .val (.int x1), .val (.int x2), .val (.int x3), .val (.int x4), .val (.int ((x0 &&& (2147483647 : Int32)) % (5 : Int32))), .val (.ref a1), .val (.long (own_f1 (-3750763034362895579 : Int64) x1 (1 : Int32))), .second]) rfl k) ?_
        show own_Goes p e below s (own_F0 Z x0 x1 x2 x3 x4 n0 h0) room_1.cells room_1.slots (T47.setTop (mkF m 85 #[.val (.int x0), .val (.int x1), .val (.int x2), .val (.int x3), .val (.int x4), .val (.int ((x0 &&& (2147483647 : Int32)) % (5 : Int32))), .val (.ref a1), .val (.long (own_f1 (-3750763034362895579 : Int64) x1 (1 : Int32))), .second] []))
        refine own_Goes.step (fun t k => XT.lload X47.here hx rfl (hb hby at_85) rfl k) ?_
        show own_Goes p e below s (own_F0 Z x0 x1 x2 x3 x4 n0 h0) room_1.cells room_1.slots (T47.setTop (mkF m 87 #[.val (.int x0), .val (.int x1), .val (.int x2), .val (.int x3), .val (.int x4), .val (.int ((x0 &&& (2147483647 : Int32)) % (5 : Int32))), .val (.ref a1), .val (.long (own_f1 (-3750763034362895579 : Int64) x1 (1 : Int32))), .second] [(.long (own_f1 (-3750763034362895579 : Int64) x1 (1 : Int32)))]))
        refine own_Goes.step (fun t k => XS.iloadN X47.here hx rfl (hb hby at_87) rfl k) ?_
        show own_Goes p e below s (own_F0 Z x0 x1 x2 x3 x4 n0 h0) room_1.cells room_1.slots (T47.setTop (mkF m 88 #[.val (.int x0), .val (.int x1), .val (.int x2), .val (.int x3), .val (.int x4), .val (.int ((x0 &&& (2147483647 : Int32)) % (5 : Int32))), .val (.ref a1), .val (.long (own_f1 (-3750763034362895579 : Int64) x1 (1 : Int32))), .second] [(.int x2), (.long (own_f1 (-3750763034362895579 : Int64) x1 (1 : Int32)))]))
        refine own_Goes.step (fun t k => XS.iload X47.here hx rfl (hb hby at_88) rfl k) ?_
        show own_Goes p e below s (own_F0 Z x0 x1 x2 x3 x4 n0 h0) room_1.cells room_1.slots (T47.setTop (mkF m 90 #[.val (.int x0), .val (.int x1), .val (.int x2), .val (.int x3), .val (.int x4), .val (.int ((x0 &&& (2147483647 : Int32)) % (5 : Int32))), .val (.ref a1), .val (.long (own_f1 (-3750763034362895579 : Int64) x1 (1 : Int32))), .second] [(.int ((x0 &&& (2147483647 : Int32)) % (5 : Int32))), (.int x2), (.long (own_f1 (-3750763034362895579 : Int64) x1 (1 : Int32)))]))
        refine own_Goes.step (fun t k => XT.iconstV X47.here hx rfl (1 : Int32) (hb hby at_90) (by decide) k) ?_
        show own_Goes p e below s (own_F0 Z x0 x1 x2 x3 x4 n0 h0) room_1.cells room_1.slots (T47.setTop (mkF m 91 #[.val (.int x0), .val (.int x1), .val (.int x2), .val (.int x3), .val (.int x4), .val (.int ((x0 &&& (2147483647 : Int32)) % (5 : Int32))), .val (.ref a1), .val (.long (own_f1 (-3750763034362895579 : Int64) x1 (1 : Int32))), .second] [(.int (1 : Int32)), (.int ((x0 &&& (2147483647 : Int32)) % (5 : Int32))), (.int x2), (.long (own_f1 (-3750763034362895579 : Int64) x1 (1 : Int32)))]))
        refine own_Goes.step (fun t k => XS.icmpYes X47.here hx rfl (pc0 := 91) (pc' := 98) rfl (hb hby at_91) rfl (XT.ii_le_t (hc8)) (by decide) (by decide) k) ?_
        show own_Goes p e below s (own_F0 Z x0 x1 x2 x3 x4 n0 h0) room_1.cells room_1.slots (T47.setTop (mkF m 98 #[.val (.int x0), .val (.int x1), .val (.int x2), .val (.int x3), .val (.int x4), .val (.int ((x0 &&& (2147483647 : Int32)) % (5 : Int32))), .val (.ref a1), .val (.long (own_f1 (-3750763034362895579 : Int64) x1 (1 : Int32))), .second] [(.int x2), (.long (own_f1 (-3750763034362895579 : Int64) x1 (1 : Int32)))]))
        refine own_Goes.step (fun t k => XT.iconstV X47.here hx rfl (0 : Int32) (hb hby at_98) (by decide) k) ?_
        show own_Goes p e below s (own_F0 Z x0 x1 x2 x3 x4 n0 h0) room_1.cells room_1.slots (T47.setTop (mkF m 99 #[.val (.int x0), .val (.int x1), .val (.int x2), .val (.int x3), .val (.int x4), .val (.int ((x0 &&& (2147483647 : Int32)) % (5 : Int32))), .val (.ref a1), .val (.long (own_f1 (-3750763034362895579 : Int64) x1 (1 : Int32))), .second] [(.int (0 : Int32)), (.int x2), (.long (own_f1 (-3750763034362895579 : Int64) x1 (1 : Int32)))]))
        obtain ⟨w48, T48, L48, q48, Y48, st48⟩ := own_stat X47 hx hZ e47 hown (hw _ (List.mem_of_getElem? (i := 3) rfl)) (hw _ (List.mem_of_getElem? (i := 4) rfl)) (hw _ (List.mem_of_getElem? (i := 5) rfl)) (hw _ (List.mem_of_getElem? (i := 6) rfl)) (by decide) (own_m1 l Z a0 hw [] (own_f1 (-3750763034362895579 : Int64) x1 (1 : Int32)) x2 (0 : Int32) h3 ) (by decide) (W := 0) (by decide) (by decide) (by decide) (g := (mkF m 99 #[.val (.int x0), .val (.int x1), .val (.int x2), .val (.int x3), .val (.int x4), .val (.int ((x0 &&& (2147483647 : Int32)) % (5 : Int32))), .val (.ref a1), .val (.long (own_f1 (-3750763034362895579 : Int64) x1 (1 : Int32))), .second] [(.int (0 : Int32)), (.int x2), (.long (own_f1 (-3750763034362895579 : Int64) x1 (1 : Int32)))])) rfl (by rw [hml]; rfl) (argsL := [(.long (own_f1 (-3750763034362895579 : Int64) x1 (1 : Int32))), (.int x2), (.int (0 : Int32))]) (rest := []) (lenOf pd_1 rfl) rfl (by show 2 * 0 + _ ≤ _; exact Nat.le_of_eq rfl) (hb hby at_99)
        obtain ⟨e48, X48⟩ := own_clean q48 Y48 rfl rfl
        obtain ⟨rfl, -, -⟩ := q48
        refine own_Goes.step st48 ?_
        show own_Goes p e below s (own_F0 Z x0 x1 x2 x3 x4 n0 h0) room_1.cells room_1.slots (T48.setTop (mkF m 102 #[.val (.int x0), .val (.int x1), .val (.int x2), .val (.int x3), .val (.int x4), .val (.int ((x0 &&& (2147483647 : Int32)) % (5 : Int32))), .val (.ref a1), .val (.long (own_f1 (-3750763034362895579 : Int64) x1 (1 : Int32))), .second] [(.long (own_f1 (own_f1 (-3750763034362895579 : Int64) x1 (1 : Int32)) x2 (0 : Int32)))]))
        refine own_Goes.step (fun t k => XT.lstore X48.here hx rfl (hb hby at_102) rfl (l' := #[.val (.int x0), .val (.int x1), .val (.int x2), .val (.int x3), .val (.int x4), .val (.int ((x0 &&& (2147483647 : Int32)) % (5 : Int32))), .val (.ref a1), .val (.long (own_f0_9 x0 x1 x2 x3 x4)), .second]) rfl k) ?_
        show own_Goes p e below s (own_F0 Z x0 x1 x2 x3 x4 n0 h0) room_1.cells room_1.slots (T48.setTop (mkF m 104 #[.val (.int x0), .val (.int x1), .val (.int x2), .val (.int x3), .val (.int x4), .val (.int ((x0 &&& (2147483647 : Int32)) % (5 : Int32))), .val (.ref a1), .val (.long (own_f0_9 x0 x1 x2 x3 x4)), .second] []))
        refine own_Goes.step (fun t k => XT.lload X48.here hx rfl (hb hby at_104) rfl k) ?_
        show own_Goes p e below s (own_F0 Z x0 x1 x2 x3 x4 n0 h0) room_1.cells room_1.slots (T48.setTop (mkF m 106 #[.val (.int x0), .val (.int x1), .val (.int x2), .val (.int x3), .val (.int x4), .val (.int ((x0 &&& (2147483647 : Int32)) % (5 : Int32))), .val (.ref a1), .val (.long (own_f0_9 x0 x1 x2 x3 x4)), .second] [(.long (own_f0_9 x0 x1 x2 x3 x4))]))
        refine own_Goes.step (fun t k => XS.iloadN X48.here hx rfl (hb hby at_106) rfl k) ?_
        show own_Goes p e below s (own_F0 Z x0 x1 x2 x3 x4 n0 h0) room_1.cells room_1.slots (T48.setTop (mkF m 107 #[.val (.int x0), .val (.int x1), .val (.int x2), .val (.int x3), .val (.int x4), .val (.int ((x0 &&& (2147483647 : Int32)) % (5 : Int32))), .val (.ref a1), .val (.long (own_f0_9 x0 x1 x2 x3 x4)), .second] [(.int x3), (.long (own_f0_9 x0 x1 x2 x3 x4))]))
        refine own_Goes.step (fun t k => XS.iload X48.here hx rfl (hb hby at_107) rfl k) ?_
        show own_Goes p e below s (own_F0 Z x0 x1 x2 x3 x4 n0 h0) room_1.cells room_1.slots (T48.setTop (mkF m 109 #[.val (.int x0), .val (.int x1), .val (.int x2), .val (.int x3), .val (.int x4), .val (.int ((x0 &&& (2147483647 : Int32)) % (5 : Int32))), .val (.ref a1), .val (.long (own_f0_9 x0 x1 x2 x3 x4)), .second] [(.int ((x0 &&& (2147483647 : Int32)) % (5 : Int32))), (.int x3), (.long (own_f0_9 x0 x1 x2 x3 x4))]))
        refine own_Goes.step (fun t k => XT.iconstV X48.here hx rfl (2 : Int32) (hb hby at_109) (by decide) k) ?_
        show own_Goes p e below s (own_F0 Z x0 x1 x2 x3 x4 n0 h0) room_1.cells room_1.slots (T48.setTop (mkF m 110 #[.val (.int x0), .val (.int x1), .val (.int x2), .val (.int x3), .val (.int x4), .val (.int ((x0 &&& (2147483647 : Int32)) % (5 : Int32))), .val (.ref a1), .val (.long (own_f0_9 x0 x1 x2 x3 x4)), .second] [(.int (2 : Int32)), (.int ((x0 &&& (2147483647 : Int32)) % (5 : Int32))), (.int x3), (.long (own_f0_9 x0 x1 x2 x3 x4))]))
        refine own_Goes.step (fun t k => XS.icmpYes X48.here hx rfl (pc0 := 110) (pc' := 117) rfl (hb hby at_110) rfl (XT.ii_le_t (own_nlt (by decide) hc8)) (by decide) (by decide) k) ?_
        show own_Goes p e below s (own_F0 Z x0 x1 x2 x3 x4 n0 h0) room_1.cells room_1.slots (T48.setTop (mkF m 117 #[.val (.int x0), .val (.int x1), .val (.int x2), .val (.int x3), .val (.int x4), .val (.int ((x0 &&& (2147483647 : Int32)) % (5 : Int32))), .val (.ref a1), .val (.long (own_f0_9 x0 x1 x2 x3 x4)), .second] [(.int x3), (.long (own_f0_9 x0 x1 x2 x3 x4))]))
        refine own_Goes.step (fun t k => XT.iconstV X48.here hx rfl (0 : Int32) (hb hby at_117) (by decide) k) ?_
        show own_Goes p e below s (own_F0 Z x0 x1 x2 x3 x4 n0 h0) room_1.cells room_1.slots (T48.setTop (mkF m 118 #[.val (.int x0), .val (.int x1), .val (.int x2), .val (.int x3), .val (.int x4), .val (.int ((x0 &&& (2147483647 : Int32)) % (5 : Int32))), .val (.ref a1), .val (.long (own_f0_9 x0 x1 x2 x3 x4)), .second] [(.int (0 : Int32)), (.int x3), (.long (own_f0_9 x0 x1 x2 x3 x4))]))
        obtain ⟨w49, T49, L49, q49, Y49, st49⟩ := own_stat X48 hx hZ e48 hown (hw _ (List.mem_of_getElem? (i := 3) rfl)) (hw _ (List.mem_of_getElem? (i := 4) rfl)) (hw _ (List.mem_of_getElem? (i := 5) rfl)) (hw _ (List.mem_of_getElem? (i := 6) rfl)) (by decide) (own_m1 l Z a0 hw [] (own_f0_9 x0 x1 x2 x3 x4) x3 (0 : Int32) h3 ) (by decide) (W := 0) (by decide) (by decide) (by decide) (g := (mkF m 118 #[.val (.int x0), .val (.int x1), .val (.int x2), .val (.int x3), .val (.int x4), .val (.int ((x0 &&& (2147483647 : Int32)) % (5 : Int32))), .val (.ref a1), .val (.long (own_f0_9 x0 x1 x2 x3 x4)), .second] [(.int (0 : Int32)), (.int x3), (.long (own_f0_9 x0 x1 x2 x3 x4))])) rfl (by rw [hml]; rfl) (argsL := [(.long (own_f0_9 x0 x1 x2 x3 x4)), (.int x3), (.int (0 : Int32))]) (rest := []) (lenOf pd_1 rfl) rfl (by show 2 * 0 + _ ≤ _; exact Nat.le_of_eq rfl) (hb hby at_118)
        obtain ⟨e49, X49⟩ := own_clean q49 Y49 rfl rfl
        obtain ⟨rfl, -, -⟩ := q49
        refine own_Goes.step st49 ?_
        show own_Goes p e below s (own_F0 Z x0 x1 x2 x3 x4 n0 h0) room_1.cells room_1.slots (T49.setTop (mkF m 121 #[.val (.int x0), .val (.int x1), .val (.int x2), .val (.int x3), .val (.int x4), .val (.int ((x0 &&& (2147483647 : Int32)) % (5 : Int32))), .val (.ref a1), .val (.long (own_f0_9 x0 x1 x2 x3 x4)), .second] [(.long (own_f1 (own_f0_9 x0 x1 x2 x3 x4) x3 (0 : Int32)))]))
        refine own_Goes.step (fun t k => XT.lstore X49.here hx rfl (hb hby at_121) rfl (l' := #[.val (.int x0), .val (.int x1), .val (.int x2), .val (.int x3), .val (.int x4), .val (.int ((x0 &&& (2147483647 : Int32)) % (5 : Int32))), .val (.ref a1), .val (.long (own_f1 (own_f0_9 x0 x1 x2 x3 x4) x3 (0 : Int32))), .second]) rfl k) ?_
        show own_Goes p e below s (own_F0 Z x0 x1 x2 x3 x4 n0 h0) room_1.cells room_1.slots (T49.setTop (mkF m 123 #[.val (.int x0), .val (.int x1), .val (.int x2), .val (.int x3), .val (.int x4), .val (.int ((x0 &&& (2147483647 : Int32)) % (5 : Int32))), .val (.ref a1), .val (.long (own_f1 (own_f0_9 x0 x1 x2 x3 x4) x3 (0 : Int32))), .second] []))
        refine own_Goes.step (fun t k => XT.lload X49.here hx rfl (hb hby at_123) rfl k) ?_
        show own_Goes p e below s (own_F0 Z x0 x1 x2 x3 x4 n0 h0) room_1.cells room_1.slots (T49.setTop (mkF m 125 #[.val (.int x0), .val (.int x1), .val (.int x2), .val (.int x3), .val (.int x4), .val (.int ((x0 &&& (2147483647 : Int32)) % (5 : Int32))), .val (.ref a1), .val (.long (own_f1 (own_f0_9 x0 x1 x2 x3 x4) x3 (0 : Int32))), .second] [(.long (own_f1 (own_f0_9 x0 x1 x2 x3 x4) x3 (0 : Int32)))]))
        refine own_Goes.step (fun t k => XS.iload X49.here hx rfl (hb hby at_125) rfl k) ?_
        show own_Goes p e below s (own_F0 Z x0 x1 x2 x3 x4 n0 h0) room_1.cells room_1.slots (T49.setTop (mkF m 127 #[.val (.int x0), .val (.int x1), .val (.int x2), .val (.int x3), .val (.int x4), .val (.int ((x0 &&& (2147483647 : Int32)) % (5 : Int32))), .val (.ref a1), .val (.long (own_f1 (own_f0_9 x0 x1 x2 x3 x4) x3 (0 : Int32))), .second] [(.int x4), (.long (own_f1 (own_f0_9 x0 x1 x2 x3 x4) x3 (0 : Int32)))]))
        refine own_Goes.step (fun t k => XS.iload X49.here hx rfl (hb hby at_127) rfl k) ?_
        show own_Goes p e below s (own_F0 Z x0 x1 x2 x3 x4 n0 h0) room_1.cells room_1.slots (T49.setTop (mkF m 129 #[.val (.int x0), .val (.int x1), .val (.int x2), .val (.int x3), .val (.int x4), .val (.int ((x0 &&& (2147483647 : Int32)) % (5 : Int32))), .val (.ref a1), .val (.long (own_f1 (own_f0_9 x0 x1 x2 x3 x4) x3 (0 : Int32))), .second] [(.int ((x0 &&& (2147483647 : Int32)) % (5 : Int32))), (.int x4), (.long (own_f1 (own_f0_9 x0 x1 x2 x3 x4) x3 (0 : Int32)))]))
        refine own_Goes.step (fun t k => XT.iconstV X49.here hx rfl (3 : Int32) (hb hby at_129) (by decide) k) ?_
        show own_Goes p e below s (own_F0 Z x0 x1 x2 x3 x4 n0 h0) room_1.cells room_1.slots (T49.setTop (mkF m 130 #[.val (.int x0), .val (.int x1), .val (.int x2), .val (.int x3), .val (.int x4), .val (.int ((x0 &&& (2147483647 : Int32)) % (5 : Int32))), .val (.ref a1), .val (.long (own_f1 (own_f0_9 x0 x1 x2 x3 x4) x3 (0 : Int32))), .second] [(.int (3 : Int32)), (.int ((x0 &&& (2147483647 : Int32)) % (5 : Int32))), (.int x4), (.long (own_f1 (own_f0_9 x0 x1 x2 x3 x4) x3 (0 : Int32)))]))
        refine own_Goes.step (fun t k => XS.icmpYes X49.here hx rfl (pc0 := 130) (pc' := 137) rfl (hb hby at_130) rfl (XT.ii_le_t (own_nlt (by decide) hc8)) (by decide) (by decide) k) ?_
        show own_Goes p e below s (own_F0 Z x0 x1 x2 x3 x4 n0 h0) room_1.cells room_1.slots (T49.setTop (mkF m 137 #[.val (.int x0), .val (.int x1), .val (.int x2), .val (.int x3), .val (.int x4), .val (.int ((x0 &&& (2147483647 : Int32)) % (5 : Int32))), .val (.ref a1), .val (.long (own_f1 (own_f0_9 x0 x1 x2 x3 x4) x3 (0 : Int32))), .second] [(.int x4), (.long (own_f1 (own_f0_9 x0 x1 x2 x3 x4) x3 (0 : Int32)))]))
        refine own_Goes.step (fun t k => XT.iconstV X49.here hx rfl (0 : Int32) (hb hby at_137) (by decide) k) ?_
        show own_Goes p e below s (own_F0 Z x0 x1 x2 x3 x4 n0 h0) room_1.cells room_1.slots (T49.setTop (mkF m 138 #[.val (.int x0), .val (.int x1), .val (.int x2), .val (.int x3), .val (.int x4), .val (.int ((x0 &&& (2147483647 : Int32)) % (5 : Int32))), .val (.ref a1), .val (.long (own_f1 (own_f0_9 x0 x1 x2 x3 x4) x3 (0 : Int32))), .second] [(.int (0 : Int32)), (.int x4), (.long (own_f1 (own_f0_9 x0 x1 x2 x3 x4) x3 (0 : Int32)))]))
        obtain ⟨w50, T50, L50, q50, Y50, st50⟩ := own_stat X49 hx hZ e49 hown (hw _ (List.mem_of_getElem? (i := 3) rfl)) (hw _ (List.mem_of_getElem? (i := 4) rfl)) (hw _ (List.mem_of_getElem? (i := 5) rfl)) (hw _ (List.mem_of_getElem? (i := 6) rfl)) (by decide) (own_m1 l Z a0 hw [] (own_f1 (own_f0_9 x0 x1 x2 x3 x4) x3 (0 : Int32)) x4 (0 : Int32) h3 ) (by decide) (W := 0) (by decide) (by decide) (by decide) (g := (mkF m 138 #[.val (.int x0), .val (.int x1), .val (.int x2), .val (.int x3), .val (.int x4), .val (.int ((x0 &&& (2147483647 : Int32)) % (5 : Int32))), .val (.ref a1), .val (.long (own_f1 (own_f0_9 x0 x1 x2 x3 x4) x3 (0 : Int32))), .second] [(.int (0 : Int32)), (.int x4), (.long (own_f1 (own_f0_9 x0 x1 x2 x3 x4) x3 (0 : Int32)))])) rfl (by rw [hml]; rfl) (argsL := [(.long (own_f1 (own_f0_9 x0 x1 x2 x3 x4) x3 (0 : Int32))), (.int x4), (.int (0 : Int32))]) (rest := []) (lenOf pd_1 rfl) rfl (by show 2 * 0 + _ ≤ _; exact Nat.le_of_eq rfl) (hb hby at_138)
        obtain ⟨e50, X50⟩ := own_clean q50 Y50 rfl rfl
        obtain ⟨rfl, -, -⟩ := q50
        refine own_Goes.step st50 ?_
        show own_Goes p e below s (own_F0 Z x0 x1 x2 x3 x4 n0 h0) room_1.cells room_1.slots (T50.setTop (mkF m 141 #[.val (.int x0), .val (.int x1), .val (.int x2), .val (.int x3), .val (.int x4), .val (.int ((x0 &&& (2147483647 : Int32)) % (5 : Int32))), .val (.ref a1), .val (.long (own_f1 (own_f0_9 x0 x1 x2 x3 x4) x3 (0 : Int32))), .second] [(.long (own_f1 (own_f1 (own_f0_9 x0 x1 x2 x3 x4) x3 (0 : Int32)) x4 (0 : Int32)))]))
        refine own_Goes.step (fun t k => XT.lstore X50.here hx rfl (hb hby at_141) rfl (l' := #[.val (.int x0), .val (.int x1), .val (.int x2), .val (.int x3), .val (.int x4), .val (.int ((x0 &&& (2147483647 : Int32)) % (5 : Int32))), .val (.ref a1), .val (.long (own_f0_10 x0 x1 x2 x3 x4)), .second]) rfl k) ?_
        show own_Goes p e below s (own_F0 Z x0 x1 x2 x3 x4 n0 h0) room_1.cells room_1.slots (T50.setTop (mkF m 143 #[.val (.int x0), .val (.int x1), .val (.int x2), .val (.int x3), .val (.int x4), .val (.int ((x0 &&& (2147483647 : Int32)) % (5 : Int32))), .val (.ref a1), .val (.long (own_f0_10 x0 x1 x2 x3 x4)), .second] []))
        refine own_Goes.step (fun t k => XS.aload X50.here hx rfl (hb hby at_143) rfl rfl k) ?_
        show own_Goes p e below s (own_F0 Z x0 x1 x2 x3 x4 n0 h0) room_1.cells room_1.slots (T50.setTop (mkF m 145 #[.val (.int x0), .val (.int x1), .val (.int x2), .val (.int x3), .val (.int x4), .val (.int ((x0 &&& (2147483647 : Int32)) % (5 : Int32))), .val (.ref a1), .val (.long (own_f0_10 x0 x1 x2 x3 x4)), .second] [(.ref a1)]))
        obtain ⟨w51, T51, L51, q51, Y51, st51⟩ := own_stat X50 hx hZ e50 hown (hw _ (List.mem_of_getElem? (i := 7) rfl)) (hw _ (List.mem_of_getElem? (i := 8) rfl)) (hw _ (List.mem_of_getElem? (i := 9) rfl)) (hw _ (List.mem_of_getElem? (i := 10) rfl)) (by decide) (own_m2 l Z a0 hw [] a1 (own_n x0) (own_f0_1 x0 x1 x2 x3 x4) n0 h3 f4 (Nat.lt_of_le_of_lt (own_n4 x0) (by decide))) (by decide) (W := 0) (by decide) (by decide) (by decide) (g := (mkF m 145 #[.val (.int x0), .val (.int x1), .val (.int x2), .val (.int x3), .val (.int x4), .val (.int ((x0 &&& (2147483647 : Int32)) % (5 : Int32))), .val (.ref a1), .val (.long (own_f0_10 x0 x1 x2 x3 x4)), .second] [(.ref a1)])) rfl (by rw [hml]; rfl) (argsL := [(.ref a1)]) (rest := []) (lenOf pd_2 rfl) rfl (by show 2 * 0 + _ ≤ _; exact Nat.le_of_eq rfl) (hb hby at_145)
        obtain ⟨e51, X51⟩ := own_clean q51 Y51 rfl rfl
        obtain ⟨rfl, -, -⟩ := q51
        refine own_Goes.step st51 ?_
        show own_Goes p e below s (own_F0 Z x0 x1 x2 x3 x4 n0 h0) room_1.cells room_1.slots (T51.setTop (mkF m 148 #[.val (.int x0), .val (.int x1), .val (.int x2), .val (.int x3), .val (.int x4), .val (.int ((x0 &&& (2147483647 : Int32)) % (5 : Int32))), .val (.ref a1), .val (.long (own_f0_10 x0 x1 x2 x3 x4)), .second] [(.long (own_hash (own_f0_1 x0 x1 x2 x3 x4) (own_n x0)))]))
        refine own_Goes.step (fun t k => XT.lload X51.here hx rfl (hb hby at_148) rfl k) ?_
        show own_Goes p e below s (own_F0 Z x0 x1 x2 x3 x4 n0 h0) room_1.cells room_1.slots (T51.setTop (mkF m 150 #[.val (.int x0), .val (.int x1), .val (.int x2), .val (.int x3), .val (.int x4), .val (.int ((x0 &&& (2147483647 : Int32)) % (5 : Int32))), .val (.ref a1), .val (.long (own_f0_10 x0 x1 x2 x3 x4)), .second] [(.long (own_f0_10 x0 x1 x2 x3 x4)), (.long (own_hash (own_f0_1 x0 x1 x2 x3 x4) (own_n x0)))]))
        obtain ⟨w52, T52, L52, q52, Y52, st52⟩ := own_stat X51 hx hZ e51 hown (hw _ (List.mem_of_getElem? (i := 14) rfl)) (hw _ (List.mem_of_getElem? (i := 15) rfl)) (hw _ (List.mem_of_getElem? (i := 5) rfl)) (hw _ (List.mem_of_getElem? (i := 16) rfl)) (by decide) (own_m3 l Z a0 hw [] (own_f0_10 x0 x1 x2 x3 x4) h3 ) (by decide) (W := 2) (by decide) (by decide) (by decide) (g := (mkF m 150 #[.val (.int x0), .val (.int x1), .val (.int x2), .val (.int x3), .val (.int x4), .val (.int ((x0 &&& (2147483647 : Int32)) % (5 : Int32))), .val (.ref a1), .val (.long (own_f0_10 x0 x1 x2 x3 x4)), .second] [(.long (own_f0_10 x0 x1 x2 x3 x4)), (.long (own_hash (own_f0_1 x0 x1 x2 x3 x4) (own_n x0)))])) rfl (by rw [hml]; rfl) (argsL := [(.long (own_f0_10 x0 x1 x2 x3 x4))]) (rest := [(.long (own_hash (own_f0_1 x0 x1 x2 x3 x4) (own_n x0)))]) (lenOf pd_3 rfl) rfl (by show 2 * 0 + _ ≤ _; exact Nat.le_of_eq rfl) (hb hby at_150)
        obtain ⟨e52, X52⟩ := own_clean q52 Y52 rfl rfl
        obtain ⟨rfl, -, -⟩ := q52
        refine own_Goes.step st52 ?_
        show own_Goes p e below s (own_F0 Z x0 x1 x2 x3 x4 n0 h0) room_1.cells room_1.slots (T52.setTop (mkF m 153 #[.val (.int x0), .val (.int x1), .val (.int x2), .val (.int x3), .val (.int x4), .val (.int ((x0 &&& (2147483647 : Int32)) % (5 : Int32))), .val (.ref a1), .val (.long (own_f0_10 x0 x1 x2 x3 x4)), .second] [(.long (own_f3 (own_f0_10 x0 x1 x2 x3 x4))), (.long (own_hash (own_f0_1 x0 x1 x2 x3 x4) (own_n x0)))]))
        refine own_Goes.step (fun t k => XT.lcmp X52.here hx rfl (hb hby at_153) rfl k) ?_
        show own_Goes p e below s (own_F0 Z x0 x1 x2 x3 x4 n0 h0) room_1.cells room_1.slots (T52.setTop (mkF m 154 #[.val (.int x0), .val (.int x1), .val (.int x2), .val (.int x3), .val (.int x4), .val (.int ((x0 &&& (2147483647 : Int32)) % (5 : Int32))), .val (.ref a1), .val (.long (own_f0_10 x0 x1 x2 x3 x4)), .second] [(.int (XT.cmpL (own_hash (own_f0_1 x0 x1 x2 x3 x4) (own_n x0)) (own_f3 (own_f0_10 x0 x1 x2 x3 x4))))]))
        by_cases hc53 : (own_hash (own_f0_1 x0 x1 x2 x3 x4) (own_n x0)) = (own_f3 (own_f0_10 x0 x1 x2 x3 x4))
        · refine own_Goes.step (fun t k => XS.ifNo X52.here hx rfl (hb hby at_154) rfl (XT.ll_ne_f hc53) k) ?_
          show own_Goes p e below s (own_F0 Z x0 x1 x2 x3 x4 n0 h0) room_1.cells room_1.slots (T52.setTop (mkF m 157 #[.val (.int x0), .val (.int x1), .val (.int x2), .val (.int x3), .val (.int x4), .val (.int ((x0 &&& (2147483647 : Int32)) % (5 : Int32))), .val (.ref a1), .val (.long (own_f0_10 x0 x1 x2 x3 x4)), .second] []))
          refine own_Goes.step (fun t k => XT.iconstV X52.here hx rfl (1 : Int32) (hb hby at_157) (by decide) k) ?_
          show own_Goes p e below s (own_F0 Z x0 x1 x2 x3 x4 n0 h0) room_1.cells room_1.slots (T52.setTop (mkF m 158 #[.val (.int x0), .val (.int x1), .val (.int x2), .val (.int x3), .val (.int x4), .val (.int ((x0 &&& (2147483647 : Int32)) % (5 : Int32))), .val (.ref a1), .val (.long (own_f0_10 x0 x1 x2 x3 x4)), .second] [(.int (1 : Int32))]))
          refine own_Goes.step (fun t k => XS.goto X52.here hx rfl (pc0 := 158) (pc' := 162) rfl (hb hby at_158) (by decide) (by decide) k) ?_
          show own_Goes p e below s (own_F0 Z x0 x1 x2 x3 x4 n0 h0) room_1.cells room_1.slots (T52.setTop (mkF m 162 #[.val (.int x0), .val (.int x1), .val (.int x2), .val (.int x3), .val (.int x4), .val (.int ((x0 &&& (2147483647 : Int32)) % (5 : Int32))), .val (.ref a1), .val (.long (own_f0_10 x0 x1 x2 x3 x4)), .second] [(.int (1 : Int32))]))
          exact own_endN X52 hx Bd.notSynchronized (t := .boolean) Bd.returns (by simp) (hb hby at_162) ⟨(congrArg (fun z => some (Value.int z)) (show (1 : Int32) = own_f0 x0 x1 x2 x3 x4 from by simp only [own_f0, if_pos hc2, if_neg hc8, if_pos hc53])), N6⟩ (by decide) (by decide)
        · refine own_Goes.step (fun t k => XS.ifYes X52.here hx rfl (pc0 := 154) (pc' := 161) rfl (hb hby at_154) rfl (XT.ll_ne_t hc53) (by decide) (by decide) k) ?_
          show own_Goes p e below s (own_F0 Z x0 x1 x2 x3 x4 n0 h0) room_1.cells room_1.slots (T52.setTop (mkF m 161 #[.val (.int x0), .val (.int x1), .val (.int x2), .val (.int x3), .val (.int x4), .val (.int ((x0 &&& (2147483647 : Int32)) % (5 : Int32))), .val (.ref a1), .val (.long (own_f0_10 x0 x1 x2 x3 x4)), .second] []))
          refine own_Goes.step (fun t k => XT.iconstV X52.here hx rfl (0 : Int32) (hb hby at_161) (by decide) k) ?_
          show own_Goes p e below s (own_F0 Z x0 x1 x2 x3 x4 n0 h0) room_1.cells room_1.slots (T52.setTop (mkF m 162 #[.val (.int x0), .val (.int x1), .val (.int x2), .val (.int x3), .val (.int x4), .val (.int ((x0 &&& (2147483647 : Int32)) % (5 : Int32))), .val (.ref a1), .val (.long (own_f0_10 x0 x1 x2 x3 x4)), .second] [(.int (0 : Int32))]))
          exact own_endN X52 hx Bd.notSynchronized (t := .boolean) Bd.returns (by simp) (hb hby at_162) ⟨(congrArg (fun z => some (Value.int z)) (show (0 : Int32) = own_f0 x0 x1 x2 x3 x4 from by simp only [own_f0, if_pos hc2, if_neg hc8, if_neg hc53])), N6⟩ (by decide) (by decide)
    · refine own_Goes.step (fun t k => XS.ifYes X1.here hx rfl (pc0 := 16) (pc' := 25) rfl (hb hby at_16) rfl (XT.i0_le_t hc2) (by decide) (by decide) k) ?_
      show own_Goes p e below s (own_F0 Z x0 x1 x2 x3 x4 n0 h0) room_1.cells room_1.slots (T1.setTop (mkF m 25 #[.val (.int x0), .val (.int x1), .val (.int x2), .val (.int x3), .val (.int x4), .val (.int ((x0 &&& (2147483647 : Int32)) % (5 : Int32))), .val (.ref a1), .unset, .unset] []))
      refine own_Goes.step (fun t k => XS.iload X1.here hx rfl (hb hby at_25) rfl k) ?_
      show own_Goes p e below s (own_F0 Z x0 x1 x2 x3 x4 n0 h0) room_1.cells room_1.slots (T1.setTop (mkF m 27 #[.val (.int x0), .val (.int x1), .val (.int x2), .val (.int x3), .val (.int x4), .val (.int ((x0 &&& (2147483647 : Int32)) % (5 : Int32))), .val (.ref a1), .unset, .unset] [(.int ((x0 &&& (2147483647 : Int32)) % (5 : Int32)))]))
      refine own_Goes.step (fun t k => XT.iconstV X1.here hx rfl (1 : Int32) (hb hby at_27) (by decide) k) ?_
      show own_Goes p e below s (own_F0 Z x0 x1 x2 x3 x4 n0 h0) room_1.cells room_1.slots (T1.setTop (mkF m 28 #[.val (.int x0), .val (.int x1), .val (.int x2), .val (.int x3), .val (.int x4), .val (.int ((x0 &&& (2147483647 : Int32)) % (5 : Int32))), .val (.ref a1), .unset, .unset] [(.int (1 : Int32)), (.int ((x0 &&& (2147483647 : Int32)) % (5 : Int32)))]))
      refine own_Goes.step (fun t k => XS.icmpYes X1.here hx rfl (pc0 := 28) (pc' := 37) rfl (hb hby at_28) rfl (XT.ii_le_t (own_nlt (by decide) hc2)) (by decide) (by decide) k) ?_
      show own_Goes p e below s (own_F0 Z x0 x1 x2 x3 x4 n0 h0) room_1.cells room_1.slots (T1.setTop (mkF m 37 #[.val (.int x0), .val (.int x1), .val (.int x2), .val (.int x3), .val (.int x4), .val (.int ((x0 &&& (2147483647 : Int32)) % (5 : Int32))), .val (.ref a1), .unset, .unset] []))
      refine own_Goes.step (fun t k => XS.iload X1.here hx rfl (hb hby at_37) rfl k) ?_
      show own_Goes p e below s (own_F0 Z x0 x1 x2 x3 x4 n0 h0) room_1.cells room_1.slots (T1.setTop (mkF m 39 #[.val (.int x0), .val (.int x1), .val (.int x2), .val (.int x3), .val (.int x4), .val (.int ((x0 &&& (2147483647 : Int32)) % (5 : Int32))), .val (.ref a1), .unset, .unset] [(.int ((x0 &&& (2147483647 : Int32)) % (5 : Int32)))]))
      refine own_Goes.step (fun t k => XT.iconstV X1.here hx rfl (2 : Int32) (hb hby at_39) (by decide) k) ?_
      show own_Goes p e below s (own_F0 Z x0 x1 x2 x3 x4 n0 h0) room_1.cells room_1.slots (T1.setTop (mkF m 40 #[.val (.int x0), .val (.int x1), .val (.int x2), .val (.int x3), .val (.int x4), .val (.int ((x0 &&& (2147483647 : Int32)) % (5 : Int32))), .val (.ref a1), .unset, .unset] [(.int (2 : Int32)), (.int ((x0 &&& (2147483647 : Int32)) % (5 : Int32)))]))
      refine own_Goes.step (fun t k => XS.icmpYes X1.here hx rfl (pc0 := 40) (pc' := 49) rfl (hb hby at_40) rfl (XT.ii_le_t (own_nlt (by decide) hc2)) (by decide) (by decide) k) ?_
      show own_Goes p e below s (own_F0 Z x0 x1 x2 x3 x4 n0 h0) room_1.cells room_1.slots (T1.setTop (mkF m 49 #[.val (.int x0), .val (.int x1), .val (.int x2), .val (.int x3), .val (.int x4), .val (.int ((x0 &&& (2147483647 : Int32)) % (5 : Int32))), .val (.ref a1), .unset, .unset] []))
      refine own_Goes.step (fun t k => XS.iload X1.here hx rfl (hb hby at_49) rfl k) ?_
      show own_Goes p e below s (own_F0 Z x0 x1 x2 x3 x4 n0 h0) room_1.cells room_1.slots (T1.setTop (mkF m 51 #[.val (.int x0), .val (.int x1), .val (.int x2), .val (.int x3), .val (.int x4), .val (.int ((x0 &&& (2147483647 : Int32)) % (5 : Int32))), .val (.ref a1), .unset, .unset] [(.int ((x0 &&& (2147483647 : Int32)) % (5 : Int32)))]))
      refine own_Goes.step (fun t k => XT.iconstV X1.here hx rfl (3 : Int32) (hb hby at_51) (by decide) k) ?_
      show own_Goes p e below s (own_F0 Z x0 x1 x2 x3 x4 n0 h0) room_1.cells room_1.slots (T1.setTop (mkF m 52 #[.val (.int x0), .val (.int x1), .val (.int x2), .val (.int x3), .val (.int x4), .val (.int ((x0 &&& (2147483647 : Int32)) % (5 : Int32))), .val (.ref a1), .unset, .unset] [(.int (3 : Int32)), (.int ((x0 &&& (2147483647 : Int32)) % (5 : Int32)))]))
      refine own_Goes.step (fun t k => XS.icmpYes X1.here hx rfl (pc0 := 52) (pc' := 62) rfl (hb hby at_52) rfl (XT.ii_le_t (own_nlt (by decide) hc2)) (by decide) (by decide) k) ?_
      show own_Goes p e below s (own_F0 Z x0 x1 x2 x3 x4 n0 h0) room_1.cells room_1.slots (T1.setTop (mkF m 62 #[.val (.int x0), .val (.int x1), .val (.int x2), .val (.int x3), .val (.int x4), .val (.int ((x0 &&& (2147483647 : Int32)) % (5 : Int32))), .val (.ref a1), .unset, .unset] []))
      refine own_Goes.step (fun t k => X1.ldc2J hx hown (mvT hZ (hw _ (List.mem_of_getElem? (i := 2) rfl))) rfl (hb hby at_62) k) ?_
      show own_Goes p e below s (own_F0 Z x0 x1 x2 x3 x4 n0 h0) room_1.cells room_1.slots (T1.setTop (mkF m 65 #[.val (.int x0), .val (.int x1), .val (.int x2), .val (.int x3), .val (.int x4), .val (.int ((x0 &&& (2147483647 : Int32)) % (5 : Int32))), .val (.ref a1), .unset, .unset] [(.long (-3750763034362895579 : Int64))]))
      refine own_Goes.step (fun t k => XT.lstore X1.here hx rfl (hb hby at_65) rfl (l' := #[.val (.int x0), .val (.int x1), .val (.int x2), .val (.int x3), .val (.int x4), .val (.int ((x0 &&& (2147483647 : Int32)) % (5 : Int32))), .val (.ref a1), .val (.long (-3750763034362895579 : Int64)), .second]) rfl k) ?_
      show own_Goes p e below s (own_F0 Z x0 x1 x2 x3 x4 n0 h0) room_1.cells room_1.slots (T1.setTop (mkF m 67 #[.val (.int x0), .val (.int x1), .val (.int x2), .val (.int x3), .val (.int x4), .val (.int ((x0 &&& (2147483647 : Int32)) % (5 : Int32))), .val (.ref a1), .val (.long (-3750763034362895579 : Int64)), .second] []))
      refine own_Goes.step (fun t k => XT.lload X1.here hx rfl (hb hby at_67) rfl k) ?_
      show own_Goes p e below s (own_F0 Z x0 x1 x2 x3 x4 n0 h0) room_1.cells room_1.slots (T1.setTop (mkF m 69 #[.val (.int x0), .val (.int x1), .val (.int x2), .val (.int x3), .val (.int x4), .val (.int ((x0 &&& (2147483647 : Int32)) % (5 : Int32))), .val (.ref a1), .val (.long (-3750763034362895579 : Int64)), .second] [(.long (-3750763034362895579 : Int64))]))
      refine own_Goes.step (fun t k => XS.iloadN X1.here hx rfl (hb hby at_69) rfl k) ?_
      show own_Goes p e below s (own_F0 Z x0 x1 x2 x3 x4 n0 h0) room_1.cells room_1.slots (T1.setTop (mkF m 70 #[.val (.int x0), .val (.int x1), .val (.int x2), .val (.int x3), .val (.int x4), .val (.int ((x0 &&& (2147483647 : Int32)) % (5 : Int32))), .val (.ref a1), .val (.long (-3750763034362895579 : Int64)), .second] [(.int x1), (.long (-3750763034362895579 : Int64))]))
      refine own_Goes.step (fun t k => XS.iload X1.here hx rfl (hb hby at_70) rfl k) ?_
      show own_Goes p e below s (own_F0 Z x0 x1 x2 x3 x4 n0 h0) room_1.cells room_1.slots (T1.setTop (mkF m 72 #[.val (.int x0), .val (.int x1), .val (.int x2), .val (.int x3), .val (.int x4), .val (.int ((x0 &&& (2147483647 : Int32)) % (5 : Int32))), .val (.ref a1), .val (.long (-3750763034362895579 : Int64)), .second] [(.int ((x0 &&& (2147483647 : Int32)) % (5 : Int32))), (.int x1), (.long (-3750763034362895579 : Int64))]))
      refine own_Goes.step (fun t k => XS.ifYes X1.here hx rfl (pc0 := 72) (pc' := 79) rfl (hb hby at_72) rfl (XT.i0_le_t (hc2)) (by decide) (by decide) k) ?_
      show own_Goes p e below s (own_F0 Z x0 x1 x2 x3 x4 n0 h0) room_1.cells room_1.slots (T1.setTop (mkF m 79 #[.val (.int x0), .val (.int x1), .val (.int x2), .val (.int x3), .val (.int x4), .val (.int ((x0 &&& (2147483647 : Int32)) % (5 : Int32))), .val (.ref a1), .val (.long (-3750763034362895579 : Int64)), .second] [(.int x1), (.long (-3750763034362895579 : Int64))]))
      refine own_Goes.step (fun t k => XT.iconstV X1.here hx rfl (0 : Int32) (hb hby at_79) (by decide) k) ?_
      show own_Goes p e below s (own_F0 Z x0 x1 x2 x3 x4 n0 h0) room_1.cells room_1.slots (T1.setTop (mkF m 80 #[.val (.int x0), .val (.int x1), .val (.int x2), .val (.int x3), .val (.int x4), .val (.int ((x0 &&& (2147483647 : Int32)) % (5 : Int32))), .val (.ref a1), .val (.long (-3750763034362895579 : Int64)), .second] [(.int (0 : Int32)), (.int x1), (.long (-3750763034362895579 : Int64))]))
      obtain ⟨w54, T54, L54, q54, Y54, st54⟩ := own_stat X1 hx hZ e1 hown (hw _ (List.mem_of_getElem? (i := 3) rfl)) (hw _ (List.mem_of_getElem? (i := 4) rfl)) (hw _ (List.mem_of_getElem? (i := 5) rfl)) (hw _ (List.mem_of_getElem? (i := 6) rfl)) (by decide) (own_m1 l Z a0 hw [] (-3750763034362895579 : Int64) x1 (0 : Int32) h1 ) (by decide) (W := 0) (by decide) (by decide) (by decide) (g := (mkF m 80 #[.val (.int x0), .val (.int x1), .val (.int x2), .val (.int x3), .val (.int x4), .val (.int ((x0 &&& (2147483647 : Int32)) % (5 : Int32))), .val (.ref a1), .val (.long (-3750763034362895579 : Int64)), .second] [(.int (0 : Int32)), (.int x1), (.long (-3750763034362895579 : Int64))])) rfl (by rw [hml]; rfl) (argsL := [(.long (-3750763034362895579 : Int64)), (.int x1), (.int (0 : Int32))]) (rest := []) (lenOf pd_1 rfl) rfl (by show 2 * 0 + _ ≤ _; exact Nat.le_of_eq rfl) (hb hby at_80)
      obtain ⟨e54, X54⟩ := own_clean q54 Y54 rfl rfl
      obtain ⟨rfl, -, -⟩ := q54
      refine own_Goes.step st54 ?_
      show own_Goes p e below s (own_F0 Z x0 x1 x2 x3 x4 n0 h0) room_1.cells room_1.slots (T54.setTop (mkF m 83 #[.val (.int x0), .val (.int x1), .val (.int x2), .val (.int x3), .val (.int x4), .val (.int ((x0 &&& (2147483647 : Int32)) % (5 : Int32))), .val (.ref a1), .val (.long (-3750763034362895579 : Int64)), .second] [(.long (own_f1 (-3750763034362895579 : Int64) x1 (0 : Int32)))]))
      refine own_Goes.step (fun t k => XT.lstore X54.here hx rfl (hb hby at_83) rfl (l' := #[.val (.int x0), .val (.int x1), .val (.int x2), .val (.int x3), .val (.int x4), .val (.int ((x0 &&& (2147483647 : Int32)) % (5 : Int32))), .val (.ref a1), .val (.long (own_f1 (-3750763034362895579 : Int64) x1 (0 : Int32))), .second]) rfl k) ?_
      show own_Goes p e below s (own_F0 Z x0 x1 x2 x3 x4 n0 h0) room_1.cells room_1.slots (T54.setTop (mkF m 85 #[.val (.int x0), .val (.int x1), .val (.int x2), .val (.int x3), .val (.int x4), .val (.int ((x0 &&& (2147483647 : Int32)) % (5 : Int32))), .val (.ref a1), .val (.long (own_f1 (-3750763034362895579 : Int64) x1 (0 : Int32))), .second] []))
      refine own_Goes.step (fun t k => XT.lload X54.here hx rfl (hb hby at_85) rfl k) ?_
      show own_Goes p e below s (own_F0 Z x0 x1 x2 x3 x4 n0 h0) room_1.cells room_1.slots (T54.setTop (mkF m 87 #[.val (.int x0), .val (.int x1), .val (.int x2), .val (.int x3), .val (.int x4), .val (.int ((x0 &&& (2147483647 : Int32)) % (5 : Int32))), .val (.ref a1), .val (.long (own_f1 (-3750763034362895579 : Int64) x1 (0 : Int32))), .second] [(.long (own_f1 (-3750763034362895579 : Int64) x1 (0 : Int32)))]))
      refine own_Goes.step (fun t k => XS.iloadN X54.here hx rfl (hb hby at_87) rfl k) ?_
      show own_Goes p e below s (own_F0 Z x0 x1 x2 x3 x4 n0 h0) room_1.cells room_1.slots (T54.setTop (mkF m 88 #[.val (.int x0), .val (.int x1), .val (.int x2), .val (.int x3), .val (.int x4), .val (.int ((x0 &&& (2147483647 : Int32)) % (5 : Int32))), .val (.ref a1), .val (.long (own_f1 (-3750763034362895579 : Int64) x1 (0 : Int32))), .second] [(.int x2), (.long (own_f1 (-3750763034362895579 : Int64) x1 (0 : Int32)))]))
      refine own_Goes.step (fun t k => XS.iload X54.here hx rfl (hb hby at_88) rfl k) ?_
      show own_Goes p e below s (own_F0 Z x0 x1 x2 x3 x4 n0 h0) room_1.cells room_1.slots (T54.setTop (mkF m 90 #[.val (.int x0), .val (.int x1), .val (.int x2), .val (.int x3), .val (.int x4), .val (.int ((x0 &&& (2147483647 : Int32)) % (5 : Int32))), .val (.ref a1), .val (.long (own_f1 (-3750763034362895579 : Int64) x1 (0 : Int32))), .second] [(.int ((x0 &&& (2147483647 : Int32)) % (5 : Int32))), (.int x2), (.long (own_f1 (-3750763034362895579 : Int64) x1 (0 : Int32)))]))
      refine own_Goes.step (fun t k => XT.iconstV X54.here hx rfl (1 : Int32) (hb hby at_90) (by decide) k) ?_
      show own_Goes p e below s (own_F0 Z x0 x1 x2 x3 x4 n0 h0) room_1.cells room_1.slots (T54.setTop (mkF m 91 #[.val (.int x0), .val (.int x1), .val (.int x2), .val (.int x3), .val (.int x4), .val (.int ((x0 &&& (2147483647 : Int32)) % (5 : Int32))), .val (.ref a1), .val (.long (own_f1 (-3750763034362895579 : Int64) x1 (0 : Int32))), .second] [(.int (1 : Int32)), (.int ((x0 &&& (2147483647 : Int32)) % (5 : Int32))), (.int x2), (.long (own_f1 (-3750763034362895579 : Int64) x1 (0 : Int32)))]))
      refine own_Goes.step (fun t k => XS.icmpYes X54.here hx rfl (pc0 := 91) (pc' := 98) rfl (hb hby at_91) rfl (XT.ii_le_t (own_nlt (by decide) hc2)) (by decide) (by decide) k) ?_
      show own_Goes p e below s (own_F0 Z x0 x1 x2 x3 x4 n0 h0) room_1.cells room_1.slots (T54.setTop (mkF m 98 #[.val (.int x0), .val (.int x1), .val (.int x2), .val (.int x3), .val (.int x4), .val (.int ((x0 &&& (2147483647 : Int32)) % (5 : Int32))), .val (.ref a1), .val (.long (own_f1 (-3750763034362895579 : Int64) x1 (0 : Int32))), .second] [(.int x2), (.long (own_f1 (-3750763034362895579 : Int64) x1 (0 : Int32)))]))
      refine own_Goes.step (fun t k => XT.iconstV X54.here hx rfl (0 : Int32) (hb hby at_98) (by decide) k) ?_
      show own_Goes p e below s (own_F0 Z x0 x1 x2 x3 x4 n0 h0) room_1.cells room_1.slots (T54.setTop (mkF m 99 #[.val (.int x0), .val (.int x1), .val (.int x2), .val (.int x3), .val (.int x4), .val (.int ((x0 &&& (2147483647 : Int32)) % (5 : Int32))), .val (.ref a1), .val (.long (own_f1 (-3750763034362895579 : Int64) x1 (0 : Int32))), .second] [(.int (0 : Int32)), (.int x2), (.long (own_f1 (-3750763034362895579 : Int64) x1 (0 : Int32)))]))
      obtain ⟨w55, T55, L55, q55, Y55, st55⟩ := own_stat X54 hx hZ e54 hown (hw _ (List.mem_of_getElem? (i := 3) rfl)) (hw _ (List.mem_of_getElem? (i := 4) rfl)) (hw _ (List.mem_of_getElem? (i := 5) rfl)) (hw _ (List.mem_of_getElem? (i := 6) rfl)) (by decide) (own_m1 l Z a0 hw [] (own_f1 (-3750763034362895579 : Int64) x1 (0 : Int32)) x2 (0 : Int32) h1 ) (by decide) (W := 0) (by decide) (by decide) (by decide) (g := (mkF m 99 #[.val (.int x0), .val (.int x1), .val (.int x2), .val (.int x3), .val (.int x4), .val (.int ((x0 &&& (2147483647 : Int32)) % (5 : Int32))), .val (.ref a1), .val (.long (own_f1 (-3750763034362895579 : Int64) x1 (0 : Int32))), .second] [(.int (0 : Int32)), (.int x2), (.long (own_f1 (-3750763034362895579 : Int64) x1 (0 : Int32)))])) rfl (by rw [hml]; rfl) (argsL := [(.long (own_f1 (-3750763034362895579 : Int64) x1 (0 : Int32))), (.int x2), (.int (0 : Int32))]) (rest := []) (lenOf pd_1 rfl) rfl (by show 2 * 0 + _ ≤ _; exact Nat.le_of_eq rfl) (hb hby at_99)
      obtain ⟨e55, X55⟩ := own_clean q55 Y55 rfl rfl
      obtain ⟨rfl, -, -⟩ := q55
      refine own_Goes.step st55 ?_
      show own_Goes p e below s (own_F0 Z x0 x1 x2 x3 x4 n0 h0) room_1.cells room_1.slots (T55.setTop (mkF m 102 #[.val (.int x0), .val (.int x1), .val (.int x2), .val (.int x3), .val (.int x4), .val (.int ((x0 &&& (2147483647 : Int32)) % (5 : Int32))), .val (.ref a1), .val (.long (own_f1 (-3750763034362895579 : Int64) x1 (0 : Int32))), .second] [(.long (own_f1 (own_f1 (-3750763034362895579 : Int64) x1 (0 : Int32)) x2 (0 : Int32)))]))
      refine own_Goes.step (fun t k => XT.lstore X55.here hx rfl (hb hby at_102) rfl (l' := #[.val (.int x0), .val (.int x1), .val (.int x2), .val (.int x3), .val (.int x4), .val (.int ((x0 &&& (2147483647 : Int32)) % (5 : Int32))), .val (.ref a1), .val (.long (own_f0_11 x0 x1 x2 x3 x4)), .second]) rfl k) ?_
      show own_Goes p e below s (own_F0 Z x0 x1 x2 x3 x4 n0 h0) room_1.cells room_1.slots (T55.setTop (mkF m 104 #[.val (.int x0), .val (.int x1), .val (.int x2), .val (.int x3), .val (.int x4), .val (.int ((x0 &&& (2147483647 : Int32)) % (5 : Int32))), .val (.ref a1), .val (.long (own_f0_11 x0 x1 x2 x3 x4)), .second] []))
      refine own_Goes.step (fun t k => XT.lload X55.here hx rfl (hb hby at_104) rfl k) ?_
      show own_Goes p e below s (own_F0 Z x0 x1 x2 x3 x4 n0 h0) room_1.cells room_1.slots (T55.setTop (mkF m 106 #[.val (.int x0), .val (.int x1), .val (.int x2), .val (.int x3), .val (.int x4), .val (.int ((x0 &&& (2147483647 : Int32)) % (5 : Int32))), .val (.ref a1), .val (.long (own_f0_11 x0 x1 x2 x3 x4)), .second] [(.long (own_f0_11 x0 x1 x2 x3 x4))]))
      refine own_Goes.step (fun t k => XS.iloadN X55.here hx rfl (hb hby at_106) rfl k) ?_
      show own_Goes p e below s (own_F0 Z x0 x1 x2 x3 x4 n0 h0) room_1.cells room_1.slots (T55.setTop (mkF m 107 #[.val (.int x0), .val (.int x1), .val (.int x2), .val (.int x3), .val (.int x4), .val (.int ((x0 &&& (2147483647 : Int32)) % (5 : Int32))), .val (.ref a1), .val (.long (own_f0_11 x0 x1 x2 x3 x4)), .second] [(.int x3), (.long (own_f0_11 x0 x1 x2 x3 x4))]))
      refine own_Goes.step (fun t k => XS.iload X55.here hx rfl (hb hby at_107) rfl k) ?_
      show own_Goes p e below s (own_F0 Z x0 x1 x2 x3 x4 n0 h0) room_1.cells room_1.slots (T55.setTop (mkF m 109 #[.val (.int x0), .val (.int x1), .val (.int x2), .val (.int x3), .val (.int x4), .val (.int ((x0 &&& (2147483647 : Int32)) % (5 : Int32))), .val (.ref a1), .val (.long (own_f0_11 x0 x1 x2 x3 x4)), .second] [(.int ((x0 &&& (2147483647 : Int32)) % (5 : Int32))), (.int x3), (.long (own_f0_11 x0 x1 x2 x3 x4))]))
      refine own_Goes.step (fun t k => XT.iconstV X55.here hx rfl (2 : Int32) (hb hby at_109) (by decide) k) ?_
      show own_Goes p e below s (own_F0 Z x0 x1 x2 x3 x4 n0 h0) room_1.cells room_1.slots (T55.setTop (mkF m 110 #[.val (.int x0), .val (.int x1), .val (.int x2), .val (.int x3), .val (.int x4), .val (.int ((x0 &&& (2147483647 : Int32)) % (5 : Int32))), .val (.ref a1), .val (.long (own_f0_11 x0 x1 x2 x3 x4)), .second] [(.int (2 : Int32)), (.int ((x0 &&& (2147483647 : Int32)) % (5 : Int32))), (.int x3), (.long (own_f0_11 x0 x1 x2 x3 x4))]))
      refine own_Goes.step (fun t k => XS.icmpYes X55.here hx rfl (pc0 := 110) (pc' := 117) rfl (hb hby at_110) rfl (XT.ii_le_t (own_nlt (by decide) hc2)) (by decide) (by decide) k) ?_
      show own_Goes p e below s (own_F0 Z x0 x1 x2 x3 x4 n0 h0) room_1.cells room_1.slots (T55.setTop (mkF m 117 #[.val (.int x0), .val (.int x1), .val (.int x2), .val (.int x3), .val (.int x4), .val (.int ((x0 &&& (2147483647 : Int32)) % (5 : Int32))), .val (.ref a1), .val (.long (own_f0_11 x0 x1 x2 x3 x4)), .second] [(.int x3), (.long (own_f0_11 x0 x1 x2 x3 x4))]))
      refine own_Goes.step (fun t k => XT.iconstV X55.here hx rfl (0 : Int32) (hb hby at_117) (by decide) k) ?_
      show own_Goes p e below s (own_F0 Z x0 x1 x2 x3 x4 n0 h0) room_1.cells room_1.slots (T55.setTop (mkF m 118 #[.val (.int x0), .val (.int x1), .val (.int x2), .val (.int x3), .val (.int x4), .val (.int ((x0 &&& (2147483647 : Int32)) % (5 : Int32))), .val (.ref a1), .val (.long (own_f0_11 x0 x1 x2 x3 x4)), .second] [(.int (0 : Int32)), (.int x3), (.long (own_f0_11 x0 x1 x2 x3 x4))]))
      obtain ⟨w56, T56, L56, q56, Y56, st56⟩ := own_stat X55 hx hZ e55 hown (hw _ (List.mem_of_getElem? (i := 3) rfl)) (hw _ (List.mem_of_getElem? (i := 4) rfl)) (hw _ (List.mem_of_getElem? (i := 5) rfl)) (hw _ (List.mem_of_getElem? (i := 6) rfl)) (by decide) (own_m1 l Z a0 hw [] (own_f0_11 x0 x1 x2 x3 x4) x3 (0 : Int32) h1 ) (by decide) (W := 0) (by decide) (by decide) (by decide) (g := (mkF m 118 #[.val (.int x0), .val (.int x1), .val (.int x2), .val (.int x3), .val (.int x4), .val (.int ((x0 &&& (2147483647 : Int32)) % (5 : Int32))), .val (.ref a1), .val (.long (own_f0_11 x0 x1 x2 x3 x4)), .second] [(.int (0 : Int32)), (.int x3), (.long (own_f0_11 x0 x1 x2 x3 x4))])) rfl (by rw [hml]; rfl) (argsL := [(.long (own_f0_11 x0 x1 x2 x3 x4)), (.int x3), (.int (0 : Int32))]) (rest := []) (lenOf pd_1 rfl) rfl (by show 2 * 0 + _ ≤ _; exact Nat.le_of_eq rfl) (hb hby at_118)
      obtain ⟨e56, X56⟩ := own_clean q56 Y56 rfl rfl
      obtain ⟨rfl, -, -⟩ := q56
      refine own_Goes.step st56 ?_
      show own_Goes p e below s (own_F0 Z x0 x1 x2 x3 x4 n0 h0) room_1.cells room_1.slots (T56.setTop (mkF m 121 #[.val (.int x0), .val (.int x1), .val (.int x2), .val (.int x3), .val (.int x4), .val (.int ((x0 &&& (2147483647 : Int32)) % (5 : Int32))), .val (.ref a1), .val (.long (own_f0_11 x0 x1 x2 x3 x4)), .second] [(.long (own_f1 (own_f0_11 x0 x1 x2 x3 x4) x3 (0 : Int32)))]))
      refine own_Goes.step (fun t k => XT.lstore X56.here hx rfl (hb hby at_121) rfl (l' := #[.val (.int x0), .val (.int x1), .val (.int x2), .val (.int x3), .val (.int x4), .val (.int ((x0 &&& (2147483647 : Int32)) % (5 : Int32))), .val (.ref a1), .val (.long (own_f1 (own_f0_11 x0 x1 x2 x3 x4) x3 (0 : Int32))), .second]) rfl k) ?_
      show own_Goes p e below s (own_F0 Z x0 x1 x2 x3 x4 n0 h0) room_1.cells room_1.slots (T56.setTop (mkF m 123 #[.val (.int x0), .val (.int x1), .val (.int x2), .val (.int x3), .val (.int x4), .val (.int ((x0 &&& (2147483647 : Int32)) % (5 : Int32))), .val (.ref a1), .val (.long (own_f1 (own_f0_11 x0 x1 x2 x3 x4) x3 (0 : Int32))), .second] []))
      refine own_Goes.step (fun t k => XT.lload X56.here hx rfl (hb hby at_123) rfl k) ?_
      show own_Goes p e below s (own_F0 Z x0 x1 x2 x3 x4 n0 h0) room_1.cells room_1.slots (T56.setTop (mkF m 125 #[.val (.int x0), .val (.int x1), .val (.int x2), .val (.int x3), .val (.int x4), .val (.int ((x0 &&& (2147483647 : Int32)) % (5 : Int32))), .val (.ref a1), .val (.long (own_f1 (own_f0_11 x0 x1 x2 x3 x4) x3 (0 : Int32))), .second] [(.long (own_f1 (own_f0_11 x0 x1 x2 x3 x4) x3 (0 : Int32)))]))
      refine own_Goes.step (fun t k => XS.iload X56.here hx rfl (hb hby at_125) rfl k) ?_
      show own_Goes p e below s (own_F0 Z x0 x1 x2 x3 x4 n0 h0) room_1.cells room_1.slots (T56.setTop (mkF m 127 #[.val (.int x0), .val (.int x1), .val (.int x2), .val (.int x3), .val (.int x4), .val (.int ((x0 &&& (2147483647 : Int32)) % (5 : Int32))), .val (.ref a1), .val (.long (own_f1 (own_f0_11 x0 x1 x2 x3 x4) x3 (0 : Int32))), .second] [(.int x4), (.long (own_f1 (own_f0_11 x0 x1 x2 x3 x4) x3 (0 : Int32)))]))
      refine own_Goes.step (fun t k => XS.iload X56.here hx rfl (hb hby at_127) rfl k) ?_
      show own_Goes p e below s (own_F0 Z x0 x1 x2 x3 x4 n0 h0) room_1.cells room_1.slots (T56.setTop (mkF m 129 #[.val (.int x0), .val (.int x1), .val (.int x2), .val (.int x3), .val (.int x4), .val (.int ((x0 &&& (2147483647 : Int32)) % (5 : Int32))), .val (.ref a1), .val (.long (own_f1 (own_f0_11 x0 x1 x2 x3 x4) x3 (0 : Int32))), .second] [(.int ((x0 &&& (2147483647 : Int32)) % (5 : Int32))), (.int x4), (.long (own_f1 (own_f0_11 x0 x1 x2 x3 x4) x3 (0 : Int32)))]))
      refine own_Goes.step (fun t k => XT.iconstV X56.here hx rfl (3 : Int32) (hb hby at_129) (by decide) k) ?_
      show own_Goes p e below s (own_F0 Z x0 x1 x2 x3 x4 n0 h0) room_1.cells room_1.slots (T56.setTop (mkF m 130 #[.val (.int x0), .val (.int x1), .val (.int x2), .val (.int x3), .val (.int x4), .val (.int ((x0 &&& (2147483647 : Int32)) % (5 : Int32))), .val (.ref a1), .val (.long (own_f1 (own_f0_11 x0 x1 x2 x3 x4) x3 (0 : Int32))), .second] [(.int (3 : Int32)), (.int ((x0 &&& (2147483647 : Int32)) % (5 : Int32))), (.int x4), (.long (own_f1 (own_f0_11 x0 x1 x2 x3 x4) x3 (0 : Int32)))]))
      refine own_Goes.step (fun t k => XS.icmpYes X56.here hx rfl (pc0 := 130) (pc' := 137) rfl (hb hby at_130) rfl (XT.ii_le_t (own_nlt (by decide) hc2)) (by decide) (by decide) k) ?_
      show own_Goes p e below s (own_F0 Z x0 x1 x2 x3 x4 n0 h0) room_1.cells room_1.slots (T56.setTop (mkF m 137 #[.val (.int x0), .val (.int x1), .val (.int x2), .val (.int x3), .val (.int x4), .val (.int ((x0 &&& (2147483647 : Int32)) % (5 : Int32))), .val (.ref a1), .val (.long (own_f1 (own_f0_11 x0 x1 x2 x3 x4) x3 (0 : Int32))), .second] [(.int x4), (.long (own_f1 (own_f0_11 x0 x1 x2 x3 x4) x3 (0 : Int32)))]))
      refine own_Goes.step (fun t k => XT.iconstV X56.here hx rfl (0 : Int32) (hb hby at_137) (by decide) k) ?_
      show own_Goes p e below s (own_F0 Z x0 x1 x2 x3 x4 n0 h0) room_1.cells room_1.slots (T56.setTop (mkF m 138 #[.val (.int x0), .val (.int x1), .val (.int x2), .val (.int x3), .val (.int x4), .val (.int ((x0 &&& (2147483647 : Int32)) % (5 : Int32))), .val (.ref a1), .val (.long (own_f1 (own_f0_11 x0 x1 x2 x3 x4) x3 (0 : Int32))), .second] [(.int (0 : Int32)), (.int x4), (.long (own_f1 (own_f0_11 x0 x1 x2 x3 x4) x3 (0 : Int32)))]))
      obtain ⟨w57, T57, L57, q57, Y57, st57⟩ := own_stat X56 hx hZ e56 hown (hw _ (List.mem_of_getElem? (i := 3) rfl)) (hw _ (List.mem_of_getElem? (i := 4) rfl)) (hw _ (List.mem_of_getElem? (i := 5) rfl)) (hw _ (List.mem_of_getElem? (i := 6) rfl)) (by decide) (own_m1 l Z a0 hw [] (own_f1 (own_f0_11 x0 x1 x2 x3 x4) x3 (0 : Int32)) x4 (0 : Int32) h1 ) (by decide) (W := 0) (by decide) (by decide) (by decide) (g := (mkF m 138 #[.val (.int x0), .val (.int x1), .val (.int x2), .val (.int x3), .val (.int x4), .val (.int ((x0 &&& (2147483647 : Int32)) % (5 : Int32))), .val (.ref a1), .val (.long (own_f1 (own_f0_11 x0 x1 x2 x3 x4) x3 (0 : Int32))), .second] [(.int (0 : Int32)), (.int x4), (.long (own_f1 (own_f0_11 x0 x1 x2 x3 x4) x3 (0 : Int32)))])) rfl (by rw [hml]; rfl) (argsL := [(.long (own_f1 (own_f0_11 x0 x1 x2 x3 x4) x3 (0 : Int32))), (.int x4), (.int (0 : Int32))]) (rest := []) (lenOf pd_1 rfl) rfl (by show 2 * 0 + _ ≤ _; exact Nat.le_of_eq rfl) (hb hby at_138)
      obtain ⟨e57, X57⟩ := own_clean q57 Y57 rfl rfl
      obtain ⟨rfl, -, -⟩ := q57
      refine own_Goes.step st57 ?_
      show own_Goes p e below s (own_F0 Z x0 x1 x2 x3 x4 n0 h0) room_1.cells room_1.slots (T57.setTop (mkF m 141 #[.val (.int x0), .val (.int x1), .val (.int x2), .val (.int x3), .val (.int x4), .val (.int ((x0 &&& (2147483647 : Int32)) % (5 : Int32))), .val (.ref a1), .val (.long (own_f1 (own_f0_11 x0 x1 x2 x3 x4) x3 (0 : Int32))), .second] [(.long (own_f1 (own_f1 (own_f0_11 x0 x1 x2 x3 x4) x3 (0 : Int32)) x4 (0 : Int32)))]))
      refine own_Goes.step (fun t k => XT.lstore X57.here hx rfl (hb hby at_141) rfl (l' := #[.val (.int x0), .val (.int x1), .val (.int x2), .val (.int x3), .val (.int x4), .val (.int ((x0 &&& (2147483647 : Int32)) % (5 : Int32))), .val (.ref a1), .val (.long (own_f0_12 x0 x1 x2 x3 x4)), .second]) rfl k) ?_
      show own_Goes p e below s (own_F0 Z x0 x1 x2 x3 x4 n0 h0) room_1.cells room_1.slots (T57.setTop (mkF m 143 #[.val (.int x0), .val (.int x1), .val (.int x2), .val (.int x3), .val (.int x4), .val (.int ((x0 &&& (2147483647 : Int32)) % (5 : Int32))), .val (.ref a1), .val (.long (own_f0_12 x0 x1 x2 x3 x4)), .second] []))
      refine own_Goes.step (fun t k => XS.aload X57.here hx rfl (hb hby at_143) rfl rfl k) ?_
      show own_Goes p e below s (own_F0 Z x0 x1 x2 x3 x4 n0 h0) room_1.cells room_1.slots (T57.setTop (mkF m 145 #[.val (.int x0), .val (.int x1), .val (.int x2), .val (.int x3), .val (.int x4), .val (.int ((x0 &&& (2147483647 : Int32)) % (5 : Int32))), .val (.ref a1), .val (.long (own_f0_12 x0 x1 x2 x3 x4)), .second] [(.ref a1)]))
      obtain ⟨w58, T58, L58, q58, Y58, st58⟩ := own_stat X57 hx hZ e57 hown (hw _ (List.mem_of_getElem? (i := 7) rfl)) (hw _ (List.mem_of_getElem? (i := 8) rfl)) (hw _ (List.mem_of_getElem? (i := 9) rfl)) (hw _ (List.mem_of_getElem? (i := 10) rfl)) (by decide) (own_m2 l Z a0 hw [] a1 (own_n x0) (fun _ => (0 : Int32)) n0 h1 r1 (Nat.lt_of_le_of_lt (own_n4 x0) (by decide))) (by decide) (W := 0) (by decide) (by decide) (by decide) (g := (mkF m 145 #[.val (.int x0), .val (.int x1), .val (.int x2), .val (.int x3), .val (.int x4), .val (.int ((x0 &&& (2147483647 : Int32)) % (5 : Int32))), .val (.ref a1), .val (.long (own_f0_12 x0 x1 x2 x3 x4)), .second] [(.ref a1)])) rfl (by rw [hml]; rfl) (argsL := [(.ref a1)]) (rest := []) (lenOf pd_2 rfl) rfl (by show 2 * 0 + _ ≤ _; exact Nat.le_of_eq rfl) (hb hby at_145)
      obtain ⟨e58, X58⟩ := own_clean q58 Y58 rfl rfl
      obtain ⟨rfl, -, -⟩ := q58
      refine own_Goes.step st58 ?_
      show own_Goes p e below s (own_F0 Z x0 x1 x2 x3 x4 n0 h0) room_1.cells room_1.slots (T58.setTop (mkF m 148 #[.val (.int x0), .val (.int x1), .val (.int x2), .val (.int x3), .val (.int x4), .val (.int ((x0 &&& (2147483647 : Int32)) % (5 : Int32))), .val (.ref a1), .val (.long (own_f0_12 x0 x1 x2 x3 x4)), .second] [(.long (own_hash (fun _ => (0 : Int32)) (own_n x0)))]))
      refine own_Goes.step (fun t k => XT.lload X58.here hx rfl (hb hby at_148) rfl k) ?_
      show own_Goes p e below s (own_F0 Z x0 x1 x2 x3 x4 n0 h0) room_1.cells room_1.slots (T58.setTop (mkF m 150 #[.val (.int x0), .val (.int x1), .val (.int x2), .val (.int x3), .val (.int x4), .val (.int ((x0 &&& (2147483647 : Int32)) % (5 : Int32))), .val (.ref a1), .val (.long (own_f0_12 x0 x1 x2 x3 x4)), .second] [(.long (own_f0_12 x0 x1 x2 x3 x4)), (.long (own_hash (fun _ => (0 : Int32)) (own_n x0)))]))
      obtain ⟨w59, T59, L59, q59, Y59, st59⟩ := own_stat X58 hx hZ e58 hown (hw _ (List.mem_of_getElem? (i := 14) rfl)) (hw _ (List.mem_of_getElem? (i := 15) rfl)) (hw _ (List.mem_of_getElem? (i := 5) rfl)) (hw _ (List.mem_of_getElem? (i := 16) rfl)) (by decide) (own_m3 l Z a0 hw [] (own_f0_12 x0 x1 x2 x3 x4) h1 ) (by decide) (W := 2) (by decide) (by decide) (by decide) (g := (mkF m 150 #[.val (.int x0), .val (.int x1), .val (.int x2), .val (.int x3), .val (.int x4), .val (.int ((x0 &&& (2147483647 : Int32)) % (5 : Int32))), .val (.ref a1), .val (.long (own_f0_12 x0 x1 x2 x3 x4)), .second] [(.long (own_f0_12 x0 x1 x2 x3 x4)), (.long (own_hash (fun _ => (0 : Int32)) (own_n x0)))])) rfl (by rw [hml]; rfl) (argsL := [(.long (own_f0_12 x0 x1 x2 x3 x4))]) (rest := [(.long (own_hash (fun _ => (0 : Int32)) (own_n x0)))]) (lenOf pd_3 rfl) rfl (by show 2 * 0 + _ ≤ _; exact Nat.le_of_eq rfl) (hb hby at_150)
      obtain ⟨e59, X59⟩ := own_clean q59 Y59 rfl rfl
      obtain ⟨rfl, -, -⟩ := q59
      refine own_Goes.step st59 ?_
      show own_Goes p e below s (own_F0 Z x0 x1 x2 x3 x4 n0 h0) room_1.cells room_1.slots (T59.setTop (mkF m 153 #[.val (.int x0), .val (.int x1), .val (.int x2), .val (.int x3), .val (.int x4), .val (.int ((x0 &&& (2147483647 : Int32)) % (5 : Int32))), .val (.ref a1), .val (.long (own_f0_12 x0 x1 x2 x3 x4)), .second] [(.long (own_f3 (own_f0_12 x0 x1 x2 x3 x4))), (.long (own_hash (fun _ => (0 : Int32)) (own_n x0)))]))
      refine own_Goes.step (fun t k => XT.lcmp X59.here hx rfl (hb hby at_153) rfl k) ?_
      show own_Goes p e below s (own_F0 Z x0 x1 x2 x3 x4 n0 h0) room_1.cells room_1.slots (T59.setTop (mkF m 154 #[.val (.int x0), .val (.int x1), .val (.int x2), .val (.int x3), .val (.int x4), .val (.int ((x0 &&& (2147483647 : Int32)) % (5 : Int32))), .val (.ref a1), .val (.long (own_f0_12 x0 x1 x2 x3 x4)), .second] [(.int (XT.cmpL (own_hash (fun _ => (0 : Int32)) (own_n x0)) (own_f3 (own_f0_12 x0 x1 x2 x3 x4))))]))
      by_cases hc60 : (own_hash (fun _ => (0 : Int32)) (own_n x0)) = (own_f3 (own_f0_12 x0 x1 x2 x3 x4))
      · refine own_Goes.step (fun t k => XS.ifNo X59.here hx rfl (hb hby at_154) rfl (XT.ll_ne_f hc60) k) ?_
        show own_Goes p e below s (own_F0 Z x0 x1 x2 x3 x4 n0 h0) room_1.cells room_1.slots (T59.setTop (mkF m 157 #[.val (.int x0), .val (.int x1), .val (.int x2), .val (.int x3), .val (.int x4), .val (.int ((x0 &&& (2147483647 : Int32)) % (5 : Int32))), .val (.ref a1), .val (.long (own_f0_12 x0 x1 x2 x3 x4)), .second] []))
        refine own_Goes.step (fun t k => XT.iconstV X59.here hx rfl (1 : Int32) (hb hby at_157) (by decide) k) ?_
        show own_Goes p e below s (own_F0 Z x0 x1 x2 x3 x4 n0 h0) room_1.cells room_1.slots (T59.setTop (mkF m 158 #[.val (.int x0), .val (.int x1), .val (.int x2), .val (.int x3), .val (.int x4), .val (.int ((x0 &&& (2147483647 : Int32)) % (5 : Int32))), .val (.ref a1), .val (.long (own_f0_12 x0 x1 x2 x3 x4)), .second] [(.int (1 : Int32))]))
        refine own_Goes.step (fun t k => XS.goto X59.here hx rfl (pc0 := 158) (pc' := 162) rfl (hb hby at_158) (by decide) (by decide) k) ?_
        show own_Goes p e below s (own_F0 Z x0 x1 x2 x3 x4 n0 h0) room_1.cells room_1.slots (T59.setTop (mkF m 162 #[.val (.int x0), .val (.int x1), .val (.int x2), .val (.int x3), .val (.int x4), .val (.int ((x0 &&& (2147483647 : Int32)) % (5 : Int32))), .val (.ref a1), .val (.long (own_f0_12 x0 x1 x2 x3 x4)), .second] [(.int (1 : Int32))]))
        exact own_endN X59 hx Bd.notSynchronized (t := .boolean) Bd.returns (by simp) (hb hby at_162) ⟨(congrArg (fun z => some (Value.int z)) (show (1 : Int32) = own_f0 x0 x1 x2 x3 x4 from by simp only [own_f0, if_neg hc2, if_pos hc60])), N0⟩ (by decide) (by decide)
      · refine own_Goes.step (fun t k => XS.ifYes X59.here hx rfl (pc0 := 154) (pc' := 161) rfl (hb hby at_154) rfl (XT.ll_ne_t hc60) (by decide) (by decide) k) ?_
        show own_Goes p e below s (own_F0 Z x0 x1 x2 x3 x4 n0 h0) room_1.cells room_1.slots (T59.setTop (mkF m 161 #[.val (.int x0), .val (.int x1), .val (.int x2), .val (.int x3), .val (.int x4), .val (.int ((x0 &&& (2147483647 : Int32)) % (5 : Int32))), .val (.ref a1), .val (.long (own_f0_12 x0 x1 x2 x3 x4)), .second] []))
        refine own_Goes.step (fun t k => XT.iconstV X59.here hx rfl (0 : Int32) (hb hby at_161) (by decide) k) ?_
        show own_Goes p e below s (own_F0 Z x0 x1 x2 x3 x4 n0 h0) room_1.cells room_1.slots (T59.setTop (mkF m 162 #[.val (.int x0), .val (.int x1), .val (.int x2), .val (.int x3), .val (.int x4), .val (.int ((x0 &&& (2147483647 : Int32)) % (5 : Int32))), .val (.ref a1), .val (.long (own_f0_12 x0 x1 x2 x3 x4)), .second] [(.int (0 : Int32))]))
        exact own_endN X59 hx Bd.notSynchronized (t := .boolean) Bd.returns (by simp) (hb hby at_162) ⟨(congrArg (fun z => some (Value.int z)) (show (0 : Int32) = own_f0 x0 x1 x2 x3 x4 from by simp only [own_f0, if_neg hc2, if_neg hc60])), N0⟩ (by decide) (by decide)
  obtain ⟨t2, o2, q1, q2, q3, q4⟩ := hgo
  exact ⟨t2, o2, castTop (ef_0 m x0 x1 x2 x3 x4) q1, q2, q3, q4⟩
theorem own_b255 (x : Int32) : (nar .byte x.toInt8.toInt32) &&& (255 : Int32) = x &&& (255 : Int32) := by
  rw [own_eq32, Jvm.Kit.i32_mask _ 255 (k := 8) (by decide) (by decide), Jvm.Kit.i32_mask x 255 (k := 8) (by decide) (by decide)]
  show (x.toInt8.toInt32.toInt8.toInt32).toInt % 2 ^ 8 = _
  simp only [Int8.toInt8_toInt32, Int8.toInt_toInt32, Int32.toInt_toInt8]
  rw [Int.bmod_def]
  omega
theorem own_on (h : Int64) (x : Int32) : own_f1 h x (1 : Int32) = (h ^^^ (x &&& (255 : Int32)).toInt64) * (1099511628211 : Int64) := by
  unfold own_f1
  rw [if_neg (by decide)]
theorem own_off (h : Int64) (x : Int32) : own_f1 h x (0 : Int32) = h := by
  unfold own_f1
  rw [if_pos rfl]
theorem own_v1_0 (x0 x1 x2 x3 x4 : Int32) : (own_f0_1 x0 x1 x2 x3 x4 0) &&& (255 : Int32) = x1 &&& (255 : Int32) := by
  unfold own_f0_1
  simp only [own_b255, if_true]
theorem own_v2_0 (x0 x1 x2 x3 x4 : Int32) : (own_f0_2 x0 x1 x2 x3 x4 0) &&& (255 : Int32) = x1 &&& (255 : Int32) := by
  unfold own_f0_2 own_f0_1
  simp only [own_b255, if_true, show ¬ ((0 : Nat) = 1) from by decide, if_false]
theorem own_v2_1 (x0 x1 x2 x3 x4 : Int32) : (own_f0_2 x0 x1 x2 x3 x4 1) &&& (255 : Int32) = x2 &&& (255 : Int32) := by
  unfold own_f0_2
  simp only [own_b255, if_true]
theorem own_v3_0 (x0 x1 x2 x3 x4 : Int32) : (own_f0_3 x0 x1 x2 x3 x4 0) &&& (255 : Int32) = x1 &&& (255 : Int32) := by
  unfold own_f0_3 own_f0_2 own_f0_1
  simp only [own_b255, if_true, show ¬ ((0 : Nat) = 1) from by decide, show ¬ ((0 : Nat) = 2) from by decide, if_false]
theorem own_v3_1 (x0 x1 x2 x3 x4 : Int32) : (own_f0_3 x0 x1 x2 x3 x4 1) &&& (255 : Int32) = x2 &&& (255 : Int32) := by
  unfold own_f0_3 own_f0_2
  simp only [own_b255, if_true, show ¬ ((1 : Nat) = 2) from by decide, if_false]
theorem own_v3_2 (x0 x1 x2 x3 x4 : Int32) : (own_f0_3 x0 x1 x2 x3 x4 2) &&& (255 : Int32) = x3 &&& (255 : Int32) := by
  unfold own_f0_3
  simp only [own_b255, if_true]
theorem own_v4_0 (x0 x1 x2 x3 x4 : Int32) : (own_f0_4 x0 x1 x2 x3 x4 0) &&& (255 : Int32) = x1 &&& (255 : Int32) := by
  unfold own_f0_4 own_f0_3 own_f0_2 own_f0_1
  simp only [own_b255, if_true, show ¬ ((0 : Nat) = 1) from by decide, show ¬ ((0 : Nat) = 2) from by decide, show ¬ ((0 : Nat) = 3) from by decide, if_false]
theorem own_v4_1 (x0 x1 x2 x3 x4 : Int32) : (own_f0_4 x0 x1 x2 x3 x4 1) &&& (255 : Int32) = x2 &&& (255 : Int32) := by
  unfold own_f0_4 own_f0_3 own_f0_2
  simp only [own_b255, if_true, show ¬ ((1 : Nat) = 2) from by decide, show ¬ ((1 : Nat) = 3) from by decide, if_false]
theorem own_v4_2 (x0 x1 x2 x3 x4 : Int32) : (own_f0_4 x0 x1 x2 x3 x4 2) &&& (255 : Int32) = x3 &&& (255 : Int32) := by
  unfold own_f0_4 own_f0_3
  simp only [own_b255, if_true, show ¬ ((2 : Nat) = 3) from by decide, if_false]
theorem own_v4_3 (x0 x1 x2 x3 x4 : Int32) : (own_f0_4 x0 x1 x2 x3 x4 3) &&& (255 : Int32) = x4 &&& (255 : Int32) := by
  unfold own_f0_4
  simp only [own_b255, if_true]
theorem own_law (x0 x1 x2 x3 x4 : Int32) : own_f0 x0 x1 x2 x3 x4 = 1 := by
  have hb := own_nb x0
  have he := own_ne x0
  have mx (h k : Int64) (e : h = k) : own_mixc (own_mixb (own_mixa h)) = own_f3 k := by rw [e]; rfl
  have k0 : (0 : Int32).toInt = 0 := rfl
  have k1 : (1 : Int32).toInt = 1 := rfl
  have k2 : (2 : Int32).toInt = 2 := rfl
  have k3 : (3 : Int32).toInt = 3 := rfl
  by_cases h0 : (0 : Int32) < ((x0 &&& (2147483647 : Int32)) % (5 : Int32))
  · skip
    by_cases h1 : (1 : Int32) < ((x0 &&& (2147483647 : Int32)) % (5 : Int32))
    · skip
      by_cases h2 : (2 : Int32) < ((x0 &&& (2147483647 : Int32)) % (5 : Int32))
      · skip
        by_cases h3 : (3 : Int32) < ((x0 &&& (2147483647 : Int32)) % (5 : Int32))
        · skip
          have g3 := h3
          rw [own_lt32, k3] at g3
          have hN : own_n x0 = 4 := by omega
          have ef : ∀ f : Nat → Int32, own_fold f 4 = (((((((((-3750763034362895579 : Int64) ^^^ ((f 0) &&& (255 : Int32)).toInt64) * (1099511628211 : Int64)) ^^^ ((f 1) &&& (255 : Int32)).toInt64) * (1099511628211 : Int64)) ^^^ ((f 2) &&& (255 : Int32)).toInt64) * (1099511628211 : Int64)) ^^^ ((f 3) &&& (255 : Int32)).toInt64) * (1099511628211 : Int64)) := fun f => rfl
          have key : own_hash (own_f0_4 x0 x1 x2 x3 x4) (own_n x0) = own_f3 (own_f0_6 x0 x1 x2 x3 x4) := by
            rw [hN]
            refine mx _ _ ?_
            rw [ef]
            simp only [own_f0_5, own_f0_6, own_f0_7, own_f0_8, own_f0_9, own_f0_10, own_f0_11, own_f0_12, own_on, own_off, own_v4_0, own_v4_1, own_v4_2, own_v4_3]
          simp only [own_f0, if_pos h0, if_pos h1, if_pos h2, if_pos h3, if_pos key]
        · skip
          have h3' := h3
          rw [own_lt32, k3] at h3'
          have g2 := h2
          rw [own_lt32, k2] at g2
          have hN : own_n x0 = 3 := by omega
          have ef : ∀ f : Nat → Int32, own_fold f 3 = (((((((-3750763034362895579 : Int64) ^^^ ((f 0) &&& (255 : Int32)).toInt64) * (1099511628211 : Int64)) ^^^ ((f 1) &&& (255 : Int32)).toInt64) * (1099511628211 : Int64)) ^^^ ((f 2) &&& (255 : Int32)).toInt64) * (1099511628211 : Int64)) := fun f => rfl
          have key : own_hash (own_f0_3 x0 x1 x2 x3 x4) (own_n x0) = own_f3 (own_f0_7 x0 x1 x2 x3 x4) := by
            rw [hN]
            refine mx _ _ ?_
            rw [ef]
            simp only [own_f0_5, own_f0_6, own_f0_7, own_f0_8, own_f0_9, own_f0_10, own_f0_11, own_f0_12, own_on, own_off, own_v3_0, own_v3_1, own_v3_2]
          simp only [own_f0, if_pos h0, if_pos h1, if_pos h2, if_neg h3, if_pos key]
      · skip
        have h2' := h2
        rw [own_lt32, k2] at h2'
        have g1 := h1
        rw [own_lt32, k1] at g1
        have hN : own_n x0 = 2 := by omega
        have ef : ∀ f : Nat → Int32, own_fold f 2 = (((((-3750763034362895579 : Int64) ^^^ ((f 0) &&& (255 : Int32)).toInt64) * (1099511628211 : Int64)) ^^^ ((f 1) &&& (255 : Int32)).toInt64) * (1099511628211 : Int64)) := fun f => rfl
        have key : own_hash (own_f0_2 x0 x1 x2 x3 x4) (own_n x0) = own_f3 (own_f0_8 x0 x1 x2 x3 x4) := by
          rw [hN]
          refine mx _ _ ?_
          rw [ef]
          simp only [own_f0_5, own_f0_6, own_f0_7, own_f0_8, own_f0_9, own_f0_10, own_f0_11, own_f0_12, own_on, own_off, own_v2_0, own_v2_1]
        simp only [own_f0, if_pos h0, if_pos h1, if_neg h2, if_pos key]
    · skip
      have h1' := h1
      rw [own_lt32, k1] at h1'
      have g0 := h0
      rw [own_lt32, k0] at g0
      have hN : own_n x0 = 1 := by omega
      have ef : ∀ f : Nat → Int32, own_fold f 1 = (((-3750763034362895579 : Int64) ^^^ ((f 0) &&& (255 : Int32)).toInt64) * (1099511628211 : Int64)) := fun f => rfl
      have key : own_hash (own_f0_1 x0 x1 x2 x3 x4) (own_n x0) = own_f3 (own_f0_10 x0 x1 x2 x3 x4) := by
        rw [hN]
        refine mx _ _ ?_
        rw [ef]
        simp only [own_f0_5, own_f0_6, own_f0_7, own_f0_8, own_f0_9, own_f0_10, own_f0_11, own_f0_12, own_on, own_off, own_v1_0]
      simp only [own_f0, if_pos h0, if_neg h1, if_pos key]
  · skip
    have h0' := h0
    rw [own_lt32, k0] at h0'
    have hN : own_n x0 = 0 := by omega
    have ef : ∀ f : Nat → Int32, own_fold f 0 = (-3750763034362895579 : Int64) := fun f => rfl
    have key : own_hash (fun _ => (0 : Int32)) (own_n x0) = own_f3 (own_f0_12 x0 x1 x2 x3 x4) := by
      rw [hN]
      refine mx _ _ ?_
      rw [ef]
      simp only [own_f0_5, own_f0_6, own_f0_7, own_f0_8, own_f0_9, own_f0_10, own_f0_11, own_f0_12, own_on, own_off]
    simp only [own_f0, if_neg h0, if_pos key]
set_option maxRecDepth 65536 in
set_option maxHeartbeats 40000000 in
theorem comes_1 {Post : Tables → Env → Array Value → State → Outcome → State → Prop} (hpost : ∀ tb e args s v u, (limb_1_1.after args s (.returned v) u = true ∧ limb_1_2.after args s (.returned v) u = true ∧ True) → FrameEnd s (.returned v) u (Jvm.fieldLocs frame_1_writes args s ++ Jvm.arrayLocs frame_1_arrays args s ++ Jvm.staticLocs frame_1_statics s) 16 128 → Post tb e args s (.returned v) u) :
    ArmFor flags0 classFile x code maxLocals ret World_1 tables_1 room_1 Calls_1 rest_1 Pre_1 Post := by
  intro l hfl _ _ p e ha hc hk s m args below hf hA hF happ hP
  obtain ⟨hcalls, hrest, hpre⟩ := hP
  obtain ⟨-, -, -, hnamed, -, -, -, hat⟩ := (Spec.applies_iff hf).mp happ
  obtain ⟨hg, hn⟩ := and_e (Cond.before_iff.mp (show (Jvm.Cond.and given_1 narrow_1).before args s = true from hpre))
  obtain ⟨hcount, hr0⟩ := and_e hg
  obtain ⟨w0, w1, w2, w3, w4, rfl⟩ : ∃ w0 w1 w2 w3 w4 : Value, args = #[w0, w1, w2, w3, w4] := by
    have hs : args.size = 5 := by simpa [Cond.value, given_1] using hcount
    obtain ⟨L⟩ := args
    match L, hs with
    | [w0, w1, w2, w3, w4], _ => exact ⟨w0, w1, w2, w3, w4, rfl⟩
  have hw := fun d (hd : d ∈ tables_1) => atoms_spec (ws := Jvm.Cond.code x code maxLocals ret :: tables_1) hat d (List.mem_cons_of_mem _ hd)
  obtain ⟨ha0, hr1⟩ := and_e hr0
  obtain ⟨i0, ev0⟩ := is_v ha0
  obtain rfl : w0 = (.int i0) := Option.some.inj ev0
  obtain ⟨ha1, hr2⟩ := and_e hr1
  obtain ⟨i1, ev1⟩ := is_v ha1
  obtain rfl : w1 = (.int i1) := Option.some.inj ev1
  obtain ⟨ha2, hr3⟩ := and_e hr2
  obtain ⟨i2, ev2⟩ := is_v ha2
  obtain rfl : w2 = (.int i2) := Option.some.inj ev2
  obtain ⟨ha3, hr4⟩ := and_e hr3
  obtain ⟨i3, ev3⟩ := is_v ha3
  obtain rfl : w3 = (.int i3) := Option.some.inj ev3
  obtain ⟨i4, ev4⟩ := is_v hr4
  obtain rfl : w4 = (.int i4) := Option.some.inj ev4
  obtain ⟨n, o, h1, h2, h3, _, L, rfl, ⟨rfl, N⟩, hq⟩ := own_m0 l s _ hw tables_1 i0 i1 i2 i3 i4 s.heap.size s.heap (Nat.le_refl _) p e ha hc hk s m _ below hf ((Spec.applies_iff_loose hf).mp happ).1 ⟨rfl, State.Warmed39.refl s, rfl⟩ trivial
  rw [own_law i0 i1 i2 i3 i4] at h3 hq
  refine ⟨n, _, h1, h2, h3, hpost _ _ _ _ _ _ ⟨Cond.after_iff.mpr rfl, Cond.after_iff.mpr (eq_i res_at (Term.int_eval (1)) rfl), trivial⟩ ⟨hq.1, hq.2.1, (hq.2.2.sift fun y hy => Or.inr (N y hy)).mono (by decide) (by decide)⟩⟩
theorem main_1_1 : Claimed_1_1 := comes_1 fun _ _ _ _ _ _ h hF => ⟨h.1, hF⟩
theorem main_1_2 : Claimed_1_2 := comes_1 fun _ _ _ _ _ _ h hF => ⟨h.2.1, hF⟩
end Jvm.Pilot.@@N@@
namespace Jvm.Pilot.@@N@@
open Jvm Jvm.ClassFile Sem Op Lib Jvm.Free Jvm.Stand Jvm.Pilot.@@N@@.Jvm.D
/-! MADE BY PROGRAM (witnessworld.py) out of the Statement's table words and the real class files: 10 classes; the members and pool entries that the words name. The judged class is class 1, her method 3. -/
namespace start1
open Jvm.ClassFile
def u (s : String) : CpInfo := .utf8 (stringToUtf16 s)
/-- a pool by its gaps: so many unusable entries, then the entry; so many at the end -/
def gap : Nat → List CpInfo → List CpInfo
  | 0, r => r
  | n + 1, r => .unusable :: gap n r
def poolList (es : List (Nat × CpInfo)) (last : Nat) : List CpInfo := es.foldr (fun e r => gap e.1 (e.2 :: r)) (gap last [])
def pool (es : List (Nat × CpInfo)) (last : Nat) : Array CpInfo := ⟨poolList es last⟩
def fileOf (pool : Array CpInfo) (this : Nat) (attrs : Array Attribute := #[]) (ms : Array MethodInfo := #[]) (fl : Nat := 33) (sup : Nat := 0) (ifs : Array Nat := #[]) (fds : Array FieldInfo := #[]) : ClassFile where
  minorVersion := 0
  majorVersion := 65
  constantPool := pool
  accessFlags := fl
  thisClass := this
  superClass := sup
  interfaces := ifs
  fields := fds
  methods := ms
  attributes := attrs
def plain (name : String) (sup : Option ClassId) : Class where
  name := name
  kind := .ordinary
  loader := none
  accessFlags := 33
  super := sup
  interfaces := #[]
  cf := none
  fields := #[]
  methods := #[]
  instanceTypes := #[]
  staticTypes := #[]
  resolved := #[]
  callSites := []
  init := .initialized
  statics := none
  mirror := none

def pool0 : Array CpInfo := pool [(5, u "<init>"), (0, u "()V"), (1, .class_ 10), (1, u "java/lang/Object")] 113

def k0m0 : Method := { name := "<init>", desc := "()V", sig := { parameters := [], returnType := none }, accessFlags := 1, code := none }
/-- java/lang/Object -/
def k0 : Class := { plain "java/lang/Object" none with
  accessFlags := 33
  interfaces := #[]
  cf := some (fileOf pool0 8 #[] #[{ accessFlags := 1, nameIndex := 5, descriptorIndex := 6, attributes := #[] }] 33 0 #[] #[])
  fields := #[]
  methods := #[k0m0]
  instanceTypes := #[]
  staticTypes := #[]
  resolved := Array.replicate 124 none
  statics := none }

def pool1 : Array CpInfo := pool [(2, .class_ 4), (1, u "java/lang/Object"), (0, u "<init>"), (0, u "()V"), (0, .long 1099511628211), (1, .long 18397679294719823053), (1, .long 14181476777654086739), (1, .integer 2147483647), (0, .long 14695981039346656037), (1, .methodref 17 18), (0, .class_ 19), (0, .nameAndType 20 21), (0, u "com/example/backtrail/backtrail/core/GraphLayoutHashPinLaw"), (0, u "step"), (0, u "(JIZ)J"), (0, .methodref 23 24), (0, .class_ 25), (0, .nameAndType 26 27), (0, u "com/example/backtrail/backtrail/core/GraphLayout"), (0, u "hash"), (0, u "([B)J"), (0, .methodref 17 29), (0, .nameAndType 30 31), (0, u "fmix"), (0, u "(J)J"), (3, u "law"), (0, u "(IIIII)Z")] 4

def k1m0 : Method := { name := "<init>", desc := "()V", sig := { parameters := [], returnType := none }, accessFlags := 2, code := none }
def k1c1 : Code := { maxStack := 4, maxLocals := 4, code := method_2_code, exceptionTable := #[], attributes := #[] }
def k1m1 : Method := { name := "step", desc := "(JIZ)J", sig := { parameters := [.long, .int, .boolean], returnType := some .long }, accessFlags := 10, code := some k1c1 }
def k1c2 : Code := { maxStack := 5, maxLocals := 4, code := method_3_code, exceptionTable := #[], attributes := #[] }
def k1m2 : Method := { name := "fmix", desc := "(J)J", sig := { parameters := [.long], returnType := some .long }, accessFlags := 10, code := some k1c2 }
def k1c3 : Code := { maxStack := 5, maxLocals := 9, code := code, exceptionTable := #[], attributes := #[] }
def k1m3 : Method := { name := "law", desc := "(IIIII)Z", sig := { parameters := [.int, .int, .int, .int, .int], returnType := some .boolean }, accessFlags := 9, code := some k1c3 }
/-- com/example/backtrail/backtrail/core/GraphLayoutHashPinLaw -/
def k1 : Class := { plain "com/example/backtrail/backtrail/core/GraphLayoutHashPinLaw" (some 0) with
  accessFlags := 49
  interfaces := #[]
  cf := some (fileOf pool1 17 #[] #[{ accessFlags := 2, nameIndex := 5, descriptorIndex := 6, attributes := #[] }, { accessFlags := 10, nameIndex := 20, descriptorIndex := 21, attributes := #[] }, { accessFlags := 10, nameIndex := 30, descriptorIndex := 31, attributes := #[] }, { accessFlags := 9, nameIndex := 35, descriptorIndex := 36, attributes := #[] }] 49 2 #[] #[])
  fields := #[]
  methods := #[k1m0, k1m1, k1m2, k1m3]
  instanceTypes := #[]
  staticTypes := #[]
  resolved := Array.replicate 41 none
  statics := none }

def pool2 : Array CpInfo := pool [(2, .class_ 4), (1, u "java/lang/Object"), (0, u "<init>"), (0, u "()V"), (0, .class_ 8), (0, u "java/lang/Record")] 13

def k2m0 : Method := { name := "<init>", desc := "()V", sig := { parameters := [], returnType := none }, accessFlags := 4, code := none }
/-- java/lang/Record -/
def k2 : Class := { plain "java/lang/Record" (some 0) with
  accessFlags := 1057
  interfaces := #[]
  cf := some (fileOf pool2 7 #[] #[{ accessFlags := 4, nameIndex := 5, descriptorIndex := 6, attributes := #[] }] 1057 2 #[] #[])
  fields := #[]
  methods := #[k2m0]
  instanceTypes := #[]
  staticTypes := #[]
  resolved := Array.replicate 22 none
  statics := none }

def pool3 : Array CpInfo := pool [(2, .class_ 4), (1, u "java/lang/Record"), (3, .class_ 10), (1, u "com/example/backtrail/backtrail/core/GraphLayout"), (0, u "nodes"), (0, u "I"), (2, u "edges"), (2, u "slots"), (0, u "J"), (2, u "recordBytes"), (2, u "positionWidth"), (2, u "namespaces"), (2, u "namespaceBytes"), (63, .long 14695981039346656037), (1, .long 1099511628211), (1, .long 18397679294719823053), (1, .long 14181476777654086739), (34, .class_ 137), (0, u "com/example/backtrail/backtrail/core/GraphLayout$Record"), (92, u "EMPTY"), (0, u "Lcom/example/backtrail/backtrail/core/GraphLayout;"), (0, u "HEADER_SIZE"), (2, u "ENTITY"), (1, u "MAX_NAMESPACES"), (1, u "FILTER_BLOCK_BYTES"), (1, u "FILTER_BITS"), (1, u "FILTER_PROBES"), (1, u "MAGIC"), (0, u "FNV_OFFSET_BASIS"), (0, u "FNV_PRIME"), (0, u "VARINT_BITS"), (0, u "VARINT_MORE"), (1, u "FILTER_BIT_BITS"), (12, u "hash"), (0, u "([B)J")] 61

def k3c0 : Code := { maxStack := 5, maxLocals := 7, code := prog_11_method_19_code, exceptionTable := #[], attributes := #[] }
def k3m0 : Method := { name := "hash", desc := "([B)J", sig := { parameters := [(.array .byte)], returnType := some .long }, accessFlags := 8, code := some k3c0 }
/-- com/example/backtrail/backtrail/core/GraphLayout -/
def k3 : Class := { plain "com/example/backtrail/backtrail/core/GraphLayout" (some 2) with
  accessFlags := 48
  interfaces := #[]
  cf := some (fileOf pool3 8 #[.nestMembers #[136]] #[{ accessFlags := 8, nameIndex := 264, descriptorIndex := 265, attributes := #[] }] 48 2 #[] #[{ accessFlags := 18, nameIndex := 11, descriptorIndex := 12, attributes := #[] }, { accessFlags := 18, nameIndex := 15, descriptorIndex := 12, attributes := #[] }, { accessFlags := 18, nameIndex := 18, descriptorIndex := 19, attributes := #[] }, { accessFlags := 18, nameIndex := 22, descriptorIndex := 19, attributes := #[] }, { accessFlags := 18, nameIndex := 25, descriptorIndex := 12, attributes := #[] }, { accessFlags := 18, nameIndex := 28, descriptorIndex := 12, attributes := #[] }, { accessFlags := 18, nameIndex := 31, descriptorIndex := 19, attributes := #[] }, { accessFlags := 24, nameIndex := 232, descriptorIndex := 12, attributes := #[] }, { accessFlags := 24, nameIndex := 235, descriptorIndex := 12, attributes := #[] }, { accessFlags := 24, nameIndex := 237, descriptorIndex := 12, attributes := #[] }, { accessFlags := 24, nameIndex := 239, descriptorIndex := 12, attributes := #[] }, { accessFlags := 24, nameIndex := 241, descriptorIndex := 12, attributes := #[] }, { accessFlags := 24, nameIndex := 243, descriptorIndex := 12, attributes := #[] }, { accessFlags := 24, nameIndex := 230, descriptorIndex := 231, attributes := #[] }, { accessFlags := 26, nameIndex := 245, descriptorIndex := 19, attributes := #[] }, { accessFlags := 26, nameIndex := 246, descriptorIndex := 19, attributes := #[] }, { accessFlags := 26, nameIndex := 247, descriptorIndex := 19, attributes := #[] }, { accessFlags := 26, nameIndex := 248, descriptorIndex := 12, attributes := #[] }, { accessFlags := 26, nameIndex := 249, descriptorIndex := 12, attributes := #[] }, { accessFlags := 26, nameIndex := 251, descriptorIndex := 12, attributes := #[] }])
  fields := #[{ name := "nodes", type := .int, accessFlags := 18, slot := 0, constantValue := 0 }, { name := "edges", type := .int, accessFlags := 18, slot := 1, constantValue := 0 }, { name := "slots", type := .long, accessFlags := 18, slot := 2, constantValue := 0 }, { name := "recordBytes", type := .long, accessFlags := 18, slot := 3, constantValue := 0 }, { name := "positionWidth", type := .int, accessFlags := 18, slot := 4, constantValue := 0 }, { name := "namespaces", type := .int, accessFlags := 18, slot := 5, constantValue := 0 }, { name := "namespaceBytes", type := .long, accessFlags := 18, slot := 6, constantValue := 0 }, { name := "HEADER_SIZE", type := .int, accessFlags := 24, slot := 0, constantValue := 0 }, { name := "ENTITY", type := .int, accessFlags := 24, slot := 1, constantValue := 0 }, { name := "MAX_NAMESPACES", type := .int, accessFlags := 24, slot := 2, constantValue := 0 }, { name := "FILTER_BLOCK_BYTES", type := .int, accessFlags := 24, slot := 3, constantValue := 0 }, { name := "FILTER_BITS", type := .int, accessFlags := 24, slot := 4, constantValue := 0 }, { name := "FILTER_PROBES", type := .int, accessFlags := 24, slot := 5, constantValue := 0 }, { name := "EMPTY", type := (.object "com/example/backtrail/backtrail/core/GraphLayout"), accessFlags := 24, slot := 6, constantValue := 0 }, { name := "MAGIC", type := .long, accessFlags := 26, slot := 7, constantValue := 0 }, { name := "FNV_OFFSET_BASIS", type := .long, accessFlags := 26, slot := 8, constantValue := 0 }, { name := "FNV_PRIME", type := .long, accessFlags := 26, slot := 9, constantValue := 0 }, { name := "VARINT_BITS", type := .int, accessFlags := 26, slot := 10, constantValue := 0 }, { name := "VARINT_MORE", type := .int, accessFlags := 26, slot := 11, constantValue := 0 }, { name := "FILTER_BIT_BITS", type := .int, accessFlags := 26, slot := 12, constantValue := 0 }]
  methods := #[k3m0]
  instanceTypes := #[.int, .int, .long, .long, .int, .int, .long]
  staticTypes := #[.int, .int, .int, .int, .int, .int, (.object "com/example/backtrail/backtrail/core/GraphLayout"), .long, .long, .long, .int, .int, .int]
  resolved := Array.replicate 327 none
  statics := none }

def pool4 : Array CpInfo := pool [(1, u "java/lang/Cloneable"), (0, .class_ 1), (0, u "java/lang/Object"), (0, .class_ 3)] 3

/-- java/lang/Cloneable -/
def k4 : Class := { plain "java/lang/Cloneable" (some 0) with
  accessFlags := 1537
  interfaces := #[]
  cf := some (fileOf pool4 2 #[] #[] 1537 4 #[] #[])
  fields := #[]
  methods := #[]
  instanceTypes := #[]
  staticTypes := #[]
  resolved := Array.replicate 8 none
  statics := none }

def pool5 : Array CpInfo := pool [(1, u "java/io/Serializable"), (0, .class_ 1), (0, u "java/lang/Object"), (0, .class_ 3)] 3

/-- java/io/Serializable -/
def k5 : Class := { plain "java/io/Serializable" (some 0) with
  accessFlags := 1537
  interfaces := #[]
  cf := some (fileOf pool5 2 #[] #[] 1537 4 #[] #[])
  fields := #[]
  methods := #[]
  instanceTypes := #[]
  staticTypes := #[]
  resolved := Array.replicate 8 none
  statics := none }

/-- the primitive byte -/
def k6 : Class := { plain "byte" none with kind := .primitive 'B', accessFlags := 0x411 }
/-- [B -/
def k7 : Class := { plain "[B" (some 0) with kind := .array 6 .byte, interfaces := #[4, 5], accessFlags := 1041 }

/-- the primitive int -/
def k8 : Class := { plain "int" none with kind := .primitive 'I', accessFlags := 0x411 }
/-- [I -/
def k9 : Class := { plain "[I" (some 0) with kind := .array 8 .int, interfaces := #[4, 5], accessFlags := 1041 }

def heap : Heap := #[]
def classes : Array Class := #[k0, k1, k2, k3, k4, k5, k6, k7, k8, k9]
def interned : List (Array UInt16 × Addr) := []
def slotsUsed : Nat := 0
def theMethod : MethodId := ⟨1, 3⟩
def args0 : Array Value := #[.int 3, .int 0, .int 1, .int 2, .int 3]
def aboutOver (below : List Frame) : State where
  vm := { classes := classes, interned := interned.toArray }
  heap := heap
  slotsUsed := slotsUsed
  threads := #[{ frames := .invoking theMethod args0 :: below }]
def below0 : List Frame := [.native { method := ⟨0, 0⟩, args := #[] }]
def about1 : State := aboutOver below0
def p0 : Program := .bare "" "" ""
def e0 : Env := launch0.env 0 0 0
theorem w_frames : about1.frames = Frame.invoking theMethod args0 :: below0 := rfl
set_option maxRecDepth 65536 in
theorem w_args : argsFit about1.vm theMethod args0 = true := by decide +kernel
set_option maxRecDepth 65536 in
theorem w_heap : heapFits about1 = true := by decide +kernel
set_option maxRecDepth 65536 in
theorem w_runnable : about1.curStatus? = some .runnable := by decide +kernel
set_option maxRecDepth 65536 in
theorem w_alone : about1.alone = true := by decide +kernel
set_option maxRecDepth 65536 in
theorem w_named : about1.methodNamed? x = some theMethod := by decide +kernel
set_option maxRecDepth 65536 in
theorem w_hears : about1.hears theMethod below0 = true := by decide +kernel
set_option maxRecDepth 65536 in
theorem w_ripe : about1.ripe theMethod args0 below0 = true := by decide +kernel
theorem w_running : about1.status = .running := rfl
set_option maxRecDepth 65536 in
theorem w_room : about1.hasRoom e0.platform room_1 = true :=
  launch0.hasRoom_least _ room_1 (by decide +kernel) (by decide +kernel) (by decide +kernel) (by decide +kernel) (by decide +kernel) (by decide +kernel)
theorem allAtoms_all (ts : List Jvm.Cond) (a : Array Jvm.Value) (st : Jvm.State) : (allAtoms ts).before a st = ts.all (fun c => c.before a st) := by
  induction ts with
  | nil => rfl
  | cons c t ih =>
    show (Jvm.Cond.and c (allAtoms t)).before a st = _
    rw [Jvm.Cond.before_and, ih, List.all_cons]
def words1 : List Jvm.Cond := Jvm.Cond.code x code maxLocals ret :: tables_1
/-- a 'code' word, met by the world's own term for the bytes: nothing is compared byte by byte -/
theorem code_word {y : MethodName} {bytes : ByteArray} {mx : Nat} {rt : Option FieldType} {a : Array Value} {s : State} {m : MethodId} {meth : Method} {c : Code} (h1 : s.methodNamed? y = some m) (h2 : s.vm.method? m = some meth) (h3 : meth.code = some c) (h4 : c.code = bytes)
    (h5 : (c.maxLocals == mx && c.exceptionTable.isEmpty && decide (c.maxStack ≤ mostOperands) && decide (meth.sig.returnType = rt) && !meth.locks && decide (parseMethodDescriptor y.desc = some meth.sig)) = true) : (Jvm.Cond.code y bytes mx rt).before a s = true := by
  simp only [Bool.and_eq_true, beq_iff_eq, Bool.not_eq_true', decide_eq_true_eq] at h5
  obtain ⟨⟨⟨⟨⟨g1, g2⟩, g3⟩, g4⟩, g5⟩, g6⟩ := h5
  simp [Cond.before, Cond.holds, Cond.value, h1, h2, h3, h4, g1, g2, g3, g4, g5, g6]
def isCode : Jvm.Cond → Bool
  | .code _ _ _ _ => true
  | _ => false
theorem all_split {L : List Jvm.Cond} {P : Jvm.Cond → Bool} (h1 : L.all (fun c => isCode c || P c) = true) (h2 : ∀ c ∈ L.filter isCode, P c = true) : L.all P = true := by
  refine List.all_eq_true.mpr fun c hc => ?_
  have h := List.all_eq_true.mp h1 c hc
  rcases Bool.eq_false_or_eq_true (isCode c) with hi | hi
  · exact h2 c (List.mem_filter.mpr ⟨hc, hi⟩)
  · simpa [hi] using h
set_option maxRecDepth 65536 in
theorem w_c0 : (Jvm.Cond.code x code maxLocals ret).before args0 about1 = true := code_word (m := ⟨1, 3⟩) (meth := k1m3) (c := k1c3) (by decide +kernel) rfl rfl rfl (by decide +kernel)
set_option maxRecDepth 65536 in
theorem w_c1 : (Jvm.Cond.code ({ cls := "com/example/backtrail/backtrail/core/GraphLayoutHashPinLaw", name := "step", desc := "(JIZ)J" } : Jvm.MethodName) method_2_code (4 : Nat) (Option.some Jvm.ClassFile.FieldType.long)).before args0 about1 = true := code_word (m := ⟨1, 1⟩) (meth := k1m1) (c := k1c1) (by decide +kernel) rfl rfl rfl (by decide +kernel)
set_option maxRecDepth 65536 in
theorem w_c2 : (Jvm.Cond.code ({ cls := "com/example/backtrail/backtrail/core/GraphLayout", name := "hash", desc := "([B)J" } : Jvm.MethodName) prog_11_method_19_code (7 : Nat) (Option.some Jvm.ClassFile.FieldType.long)).before args0 about1 = true := code_word (m := ⟨3, 0⟩) (meth := k3m0) (c := k3c0) (by decide +kernel) rfl rfl rfl (by decide +kernel)
set_option maxRecDepth 65536 in
theorem w_c3 : (Jvm.Cond.code ({ cls := "com/example/backtrail/backtrail/core/GraphLayoutHashPinLaw", name := "fmix", desc := "(J)J" } : Jvm.MethodName) method_3_code (4 : Nat) (Option.some Jvm.ClassFile.FieldType.long)).before args0 about1 = true := code_word (m := ⟨1, 2⟩) (meth := k1m2) (c := k1c2) (by decide +kernel) rfl rfl rfl (by decide +kernel)
def codes1 : List Jvm.Cond := [Jvm.Cond.code x code maxLocals ret, Jvm.Cond.code ({ cls := "com/example/backtrail/backtrail/core/GraphLayoutHashPinLaw", name := "step", desc := "(JIZ)J" } : Jvm.MethodName) method_2_code (4 : Nat) (Option.some Jvm.ClassFile.FieldType.long), Jvm.Cond.code ({ cls := "com/example/backtrail/backtrail/core/GraphLayout", name := "hash", desc := "([B)J" } : Jvm.MethodName) prog_11_method_19_code (7 : Nat) (Option.some Jvm.ClassFile.FieldType.long), Jvm.Cond.code ({ cls := "com/example/backtrail/backtrail/core/GraphLayoutHashPinLaw", name := "fmix", desc := "(J)J" } : Jvm.MethodName) method_3_code (4 : Nat) (Option.some Jvm.ClassFile.FieldType.long)]
set_option maxRecDepth 65536 in
theorem codes_eq : words1.filter isCode = codes1 := rfl
theorem w_codes : ∀ c ∈ words1.filter isCode, c.before args0 about1 = true := by
  rw [codes_eq]
  intro c hc
  simp only [codes1, List.mem_cons, List.not_mem_nil, or_false] at hc
  rcases hc with rfl | rfl | rfl | rfl
  · exact w_c0
  · exact w_c1
  · exact w_c2
  · exact w_c3
set_option maxRecDepth 65536 in
theorem w_t1 : words1.all (fun c => isCode c || c.before args0 about1) = true := by decide +kernel
theorem w_tables : (allAtoms (Jvm.Cond.code x code maxLocals ret :: tables_1)).before args0 about1 = true := by
  rw [allAtoms_all]
  show words1.all (fun c => c.before args0 about1) = true
  refine all_split ?_ w_codes
  rw [w_t1]
set_option maxRecDepth 65536 in
theorem w_case : (Jvm.Cond.and given_1 narrow_1).before args0 about1 = true := by decide +kernel
theorem w_applies : (headSpec (Jvm.Cond.code x code maxLocals ret :: tables_1) room_1).applies x e0.platform about1 = true :=
  (Spec.applies_iff w_frames).mpr ⟨w_running, w_runnable, w_alone, w_named, w_hears, w_ripe, w_room, w_tables⟩
theorem atStart : AtStart classFile x code maxLocals ret World_1 tables_1 room_1 Calls_1 rest_1 Pre_1 launch0 p0 e0 about1 theMethod args0 below0 :=
  ⟨lists_1, trivial, launch0.admits_env _ _ _, launch0.least_env, fairChoices_fair.cas, fairChoices_fair.clock, w_frames, w_args, w_heap, w_applies, trivial, trivial, w_case⟩
end start1
theorem witness_1 : WitnessClaimed_1 := ⟨start1.p0, start1.e0, start1.about1, start1.theMethod, start1.args0, start1.below0, start1.atStart⟩
end Jvm.Pilot.@@N@@
