import JvmDerived
import JvmDerived.Pilot.@@N@@Statement
import JvmDerived.Pilot.@@N@@Code
set_option linter.unusedVariables false
set_option linter.unusedSimpArgs false
@@BLOCK:NumsL.lean.txt@@
namespace Jvm.RoadKit
open Sem ClassFile Op Lib Jvm.Stand Jvm.Free Jvm.LawKit
section New
variable {p : Program} {l : Launch} {e : Env} {R : Room} {s : State} {m : MethodId} {args : Array Value} {below : List Frame} {meth : Method} {c : Code} {T : State} {locs : List Loc} {cells slots : Nat}
theorem retI (X : Stand p l e R s m args below meth c T locs cells slots) (hx : p.tables.exec = Jvm.exec) {pc : Nat} {Ls : Array Slot} {z : Int32} {rest : List Value} (hret : meth.sig.returnType = some .int) (hd : decode c.code pc = .ok (.ireturn, 1)) {fs : List Frame}
    (hl : ∀ (f : JFrame) (acts : List Action), f.method = m → f.locked = none → f.entered = [] → (doReturn e (T.setTop f) acts (some (.int z))).1 = T.setFrames fs) : Steps p.tables e below (T.setTop (mkF m pc Ls (.int z :: rest))) (T.setFrames fs) := by
  have hm' : T.vm.method? m = some meth := X.method'
  have hn : narrow .int (.int z) = .int z := rfl
  show Steps p.tables e below (T.setTop { method := m, pc := pc, locals := Ls, stack := _ :: rest, locked := none }) _
  jvm_step X.here [X.here.top, hx, hd, hm', hret, hn]
  first | (intro acts; rw [hl _ acts rfl rfl rfl]) | rw [hl _ _ rfl rfl rfl]
  exact Steps.refl _
/-- the run from A comes to a return of which F says the value, the heap and the written places -/
def own_Goes (p : Program) (e : Env) (below : List Frame) (s : State) (F : Option Value → Heap → List Loc → Prop) (k n : Nat) (A : State) : Prop :=
  ∃ s₂ o, Steps p.tables e below A s₂ ∧ s₂.status = .running ∧ Ended s₂ below o ∧ ∃ v L, o = .returned v ∧ F v s₂.heap L ∧ FrameEnd s o s₂ L k n
variable {F : Option Value → Heap → List Loc → Prop} {k n : Nat}
theorem own_Goes.step {A B : State} (h : ∀ t, Steps p.tables e below B t → Steps p.tables e below A t) (g : own_Goes p e below s F k n B) : own_Goes p e below s F k n A := by
  obtain ⟨s₂, o, h1, h2⟩ := g
  exact ⟨s₂, o, h _ h1, h2⟩
theorem own_endI (X : Stand p l e R s m args below meth c T locs cells slots) (hx : p.tables.exec = Jvm.exec) (hlk : meth.locks = false) {pc : Nat} {Ls : Array Slot} {z : Int32} {rest : List Value} (hret : meth.sig.returnType = some .int) (hd : decode c.code pc = .ok (.ireturn, 1)) (hF : F (some (.int z)) T.heap locs) (hk : cells ≤ k) (hn : slots ≤ n) :
    own_Goes p e below s F k n (T.setTop (mkF m pc Ls (.int z :: rest))) := by
  obtain ⟨fs, hr, hrun, hended, hW, hsame⟩ := X.leave (v := some (.int z)) (fun h => by rw [hret] at h; cases h) hlk
  exact ⟨_, _, retI X hx hret hd hr, hrun, hended, _, _, rfl, hF, ⟨_, rfl⟩, hW, hsame.mono hk hn⟩
theorem own_endN (X : Stand p l e R s m args below meth c T locs cells slots) (hx : p.tables.exec = Jvm.exec) (hlk : meth.locks = false) {pc : Nat} {Ls : Array Slot} {z : Int32} {t : FieldType} {rest : List Value} (hret : meth.sig.returnType = some t) (ht : t = .boolean ∨ t = .byte ∨ t = .char ∨ t = .short) (hd : decode c.code pc = .ok (.ireturn, 1)) (hF : F (some (.int (nar t z))) T.heap locs) (hk : cells ≤ k) (hn : slots ≤ n) :
    own_Goes p e below s F k n (T.setTop (mkF m pc Ls (.int z :: rest))) := by
  obtain ⟨fs, hr, hrun, hended, hW, hsame⟩ := X.leave (v := some (.int (nar t z))) (fun h => by rw [hret] at h; cases h) hlk
  exact ⟨_, _, retN X hx hret ht hd hr, hrun, hended, _, _, rfl, hF, ⟨_, rfl⟩, hW, hsame.mono hk hn⟩
theorem own_endJ (X : Stand p l e R s m args below meth c T locs cells slots) (hx : p.tables.exec = Jvm.exec) (hlk : meth.locks = false) {pc : Nat} {Ls : Array Slot} {z : Int64} (hret : meth.sig.returnType = some .long) (hd : decode c.code pc = .ok (.lreturn, 1)) (hF : F (some (.long z)) T.heap locs) (hk : cells ≤ k) (hn : slots ≤ n) :
    own_Goes p e below s F k n (T.setTop (mkF m pc Ls [.long z])) := by
  obtain ⟨fs, hr, hrun, hended, hW, hsame⟩ := X.leave (v := some (.long z)) (fun h => by rw [hret] at h; cases h) hlk
  exact ⟨_, _, X.lreturnOut hx hret hd hr, hrun, hended, _, _, rfl, hF, ⟨_, rfl⟩, hW, hsame.mono hk hn⟩
theorem own_endV (X : Stand p l e R s m args below meth c T locs cells slots) (hx : p.tables.exec = Jvm.exec) (hlk : meth.locks = false) {pc : Nat} {Ls : Array Slot} (hret : meth.sig.returnType = none) (hd : decode c.code pc = .ok (.return_, 1)) (hF : F none T.heap locs) (hk : cells ≤ k) (hn : slots ≤ n) :
    own_Goes p e below s F k n (T.setTop (mkF m pc Ls [])) := by
  obtain ⟨fs, hr, hrun, hended, hW, hsame⟩ := X.leave (v := none) (fun _ => rfl) hlk
  exact ⟨_, _, X.returnOut hx hret hd hr, hrun, hended, _, _, rfl, hF, ⟨_, rfl⟩, hW, hsame.mono hk hn⟩
theorem own_endA (X : Stand p l e R s m args below meth c T locs cells slots) (hx : p.tables.exec = Jvm.exec) (hlk : meth.locks = false) {pc : Nat} {Ls : Array Slot} {w : Value} {t : FieldType} (hw : w.isRef = true) (hret : meth.sig.returnType = some t) (ht : t.isReference = true) (hd : decode c.code pc = .ok (.areturn, 1)) (hF : F (some w) T.heap locs) (hk : cells ≤ k) (hn : slots ≤ n) :
    own_Goes p e below s F k n (T.setTop (mkF m pc Ls [w])) := by
  obtain ⟨fs, hr, hrun, hended, hW, hsame⟩ := X.leave (v := some w) (fun h => by rw [hret] at h; cases h) hlk
  exact ⟨_, _, X.areturnOut hx hw hret ht hd hr, hrun, hended, _, _, rfl, hF, ⟨_, rfl⟩, hW, hsame.mono hk hn⟩
theorem own_lrem (x y : Int64) : x - x / y * y = x % y := by
  refine Int64.toInt_inj.mp ?_
  rw [Jvm.Kit.i64_rem, Int64.toInt_mod]
theorem own_lremM {g : JFrame} {target : State} (X : Stand p l e R s m args below meth c T locs cells slots) (hx : p.tables.exec = Jvm.exec) (hg : g.method = m) {x y : Int64} {rest : List Value} (hd : decode c.code g.pc = .ok (.lrem, 1)) (hs : g.stack = .long y :: .long x :: rest) (hy : y ≠ 0)
    (hr : Steps p.tables e below (T.setTop { g with pc := g.pc + 1, stack := .long (x % y) :: rest }) target) : Steps p.tables e below (T.setTop g) target :=
  XT.lrem X.here hx hg hd hs hy (by rw [own_lrem]; exact hr)
/-- the three calls, by a contract in this family, carried forward -/
theorem own_stat {Z : State} {a0 : Array Value} {h : Heap} (X : Stand p l e R s m args below meth c T locs cells slots) (hx : p.tables.exec = Jvm.exec) (hZ : Z.Warmed39 s.vm) (eT : T.heap = h) {own : String} {index : Nat} {y : MethodName} {bytes : ByteArray} {maxL : Nat} {ret : Option FieldType} {rm : Room} {W : Nat} {argsL rest : List Value} {Q : Option Value → Heap → List Loc → Prop}
    (hown : s.vm.findClass own = some m.cls) (wl : (Cond.methodLink own index y).before a0 Z = true) (wst : (Cond.static y).before a0 Z = true) (wi : (Cond.initialized y.cls).before a0 Z = true) (wc : (Cond.code y bytes maxL ret).before a0 Z = true) (hy : y.cls ≠ "java/lang/invoke/MethodHandle" ∧ y.cls ≠ "java/lang/invoke/VarHandle")
    (hM : MetFree l y (head1 [Cond.code y bytes maxL ret] rm) (fun a U => a = argsL.toArray ∧ Z.Warmed39 U.vm ∧ U.heap = h) (fun _ _ _ _ _ => True) (fun _ U o U' => ∃ w L, o = .returned w ∧ Q w U'.heap L ∧ FrameEnd U o U' L rm.cells rm.slots))
    (hf : rm.frames + 1 ≤ R.frames) (hl : W + (maxL + 11) + rm.locals ≤ R.locals) (hcells : cells + rm.cells ≤ R.cells) (hslots : slots + rm.slots ≤ R.slots)
    {g : JFrame} (hg : g.method = m) (hsize : g.locals.size = c.maxLocals) (hlen : ∀ sig, parseMethodDescriptor y.desc = some sig → argsL.length = sig.parameters.length) (hstack : g.stack = argsL.reverse ++ rest) (hW : 2 * g.monitorRoom + (rest.map fun v => v.category).sum ≤ W) (hdg : decode c.code g.pc = .ok (.invokestatic index, 3)) :
    ∃ w T' L, Q w T'.heap L ∧ Stand p l e R s m args below meth c T' (locs ++ L) (cells + rm.cells) (slots + rm.slots) ∧ ∀ t, Steps p.tables e below (T'.setTop { g with pc := g.pc + 3, stack := w.toList ++ rest }) t → Steps p.tables e below (T.setTop g) t := by
  have hB := backOf (R := R) (p := p) (e := e) (below := below) (args := args) (len := 3) (W := W) (Q := Q) hM hZ wc wi hf hl
  obtain ⟨w, vm₁, ⟨U, Lc, k1, n1⟩, -, X', ⟨L, hQ, hL, hC, hS⟩, st⟩ := Jvm.LawKit.callS X hx (y := y) hown (mvT hZ wl) (mvT hZ wst) (mvT hZ wi) (mvT hZ wc) hy hB (g := g) hg hsize hlen hstack hW hdg (fun _ _ => ⟨rfl, eT, hcells, hslots⟩)
  dsimp only [Pt.U, Pt.locs, Pt.cells, Pt.slots] at X' hQ hL hC hS st
  subst hL hC hS
  exact ⟨w, U, L, hQ, X', st⟩
theorem own_spec {Z : State} {a0 : Array Value} {h : Heap} (X : Stand p l e R s m args below meth c T locs cells slots) (hx : p.tables.exec = Jvm.exec) (hZ : Z.Warmed39 s.vm) (eT : T.heap = h) {own : String} {index : Nat} {y : MethodName} {bytes : ByteArray} {maxL : Nat} {rm : Room} {W : Nat} {a : Addr} {argsL rest : List Value} {Q : Option Value → Heap → List Loc → Prop}
    (hy1 : y.name = "<init>") (hown : s.vm.findClass own = some m.cls) (wl : (Cond.methodLink own index y).before a0 Z = true) (wst : (Cond.instanceMethod y).before a0 Z = true) (wi : (Cond.initialized y.cls).before a0 Z = true) (wc : (Cond.code y bytes maxL none).before a0 Z = true) (hy : y.cls ≠ "java/lang/invoke/MethodHandle" ∧ y.cls ≠ "java/lang/invoke/VarHandle")
    (hM : MetFree l y (head1 [Cond.code y bytes maxL none] rm) (fun b U => b = (.ref a :: argsL).toArray ∧ Z.Warmed39 U.vm ∧ U.heap = h) (fun _ _ _ _ _ => True) (fun _ U o U' => ∃ w L, o = .returned w ∧ Q w U'.heap L ∧ FrameEnd U o U' L rm.cells rm.slots))
    (hf : rm.frames + 1 ≤ R.frames) (hl : W + (maxL + 11) + rm.locals ≤ R.locals) (hcells : cells + rm.cells ≤ R.cells) (hslots : slots + rm.slots ≤ R.slots)
    {g : JFrame} (hg : g.method = m) (hsize : g.locals.size = c.maxLocals) (hlen : ∀ sig, parseMethodDescriptor y.desc = some sig → argsL.length = sig.parameters.length) (hstack : g.stack = argsL.reverse ++ .ref a :: rest) (hW : 2 * g.monitorRoom + (rest.map fun v => v.category).sum ≤ W) (hdg : decode c.code g.pc = .ok (.invokespecial index, 3)) :
    ∃ w T' L, Q w T'.heap L ∧ Stand p l e R s m args below meth c T' (locs ++ L) (cells + rm.cells) (slots + rm.slots) ∧ ∀ t, Steps p.tables e below (T'.setTop { g with pc := g.pc + 3, stack := w.toList ++ rest }) t → Steps p.tables e below (T.setTop g) t := by
  have hB := backOf (R := R) (p := p) (e := e) (below := below) (args := args) (len := 3) (W := W) (Q := Q) hM hZ wc wi hf hl
  obtain ⟨w, vm₁, ⟨U, Lc, k1, n1⟩, -, X', ⟨L, hQ, hL, hC, hS⟩, st⟩ := X.specialBack hx (y := y) hy1 hown (mvT hZ wl) (mvT hZ wst) (mvT hZ wc) hy hB (g := g) hg hsize (Steps.refl _) (a := a) hlen hstack hW hdg (fun _ _ => ⟨rfl, eT, hcells, hslots⟩)
  dsimp only [Pt.U, Pt.locs, Pt.cells, Pt.slots] at X' hQ hL hC hS st
  subst hL hC hS
  exact ⟨w, U, L, hQ, X', fun t k => st.trans k⟩
theorem own_virt {Z : State} {a0 : Array Value} {h : Heap} (X : Stand p l e R s m args below meth c T locs cells slots) (hx : p.tables.exec = Jvm.exec) (hZ : Z.Warmed39 s.vm) (eT : T.heap = h) {own C : String} {index : Nat} {y : MethodName} {bytes : ByteArray} {maxL : Nat} {ret : Option FieldType} {rm : Room} {W : Nat} {a : Addr} {argsL rest : List Value} {Q : Option Value → Heap → List Loc → Prop}
    (E : Exa Z h a C) (hown : s.vm.findClass own = some m.cls) (wl : (Cond.methodLink own index y).before a0 Z = true) (wd : (Cond.declares y).before a0 Z = true) (ws : (Cond.selects C y y).before a0 Z = true) (wst : (Cond.instanceMethod y).before a0 Z = true) (wi : (Cond.initialized y.cls).before a0 Z = true) (wc : (Cond.code y bytes maxL ret).before a0 Z = true) (hy : y.cls ≠ "java/lang/invoke/MethodHandle" ∧ y.cls ≠ "java/lang/invoke/VarHandle")
    (hM : MetFree l y (head1 [Cond.code y bytes maxL ret] rm) (fun b U => b = (.ref a :: argsL).toArray ∧ Z.Warmed39 U.vm ∧ U.heap = h) (fun _ _ _ _ _ => True) (fun _ U o U' => ∃ w L, o = .returned w ∧ Q w U'.heap L ∧ FrameEnd U o U' L rm.cells rm.slots))
    (hf : rm.frames + 1 ≤ R.frames) (hl : W + (maxL + 11) + rm.locals ≤ R.locals) (hcells : cells + rm.cells ≤ R.cells) (hslots : slots + rm.slots ≤ R.slots)
    {g : JFrame} (hg : g.method = m) (hsize : g.locals.size = c.maxLocals) (hlen : ∀ sig, parseMethodDescriptor y.desc = some sig → argsL.length = sig.parameters.length) (hstack : g.stack = argsL.reverse ++ .ref a :: rest) (hW : 2 * g.monitorRoom + (rest.map fun v => v.category).sum ≤ W) (hdg : decode c.code g.pc = .ok (.invokevirtual index, 3)) :
    ∃ w T' L, Q w T'.heap L ∧ Stand p l e R s m args below meth c T' (locs ++ L) (cells + rm.cells) (slots + rm.slots) ∧ ∀ t, Steps p.tables e below (T'.setTop { g with pc := g.pc + 3, stack := w.toList ++ rest }) t → Steps p.tables e below (T.setTop g) t := by
  have hB := backOf (R := R) (p := p) (e := e) (below := below) (args := args) (len := 3) (W := W) (Q := Q) hM hZ wc wi hf hl
  obtain ⟨cq, kq, qa, qb, qc⟩ := isOf hZ eT E
  obtain ⟨w, vm₁, ⟨U, Lc, k1, n1⟩, -, X', ⟨L, hQ, hL, hC, hS⟩, st⟩ := X.virtualBack hx (y := y) (z := y) hown (mvT hZ wl) (mvT hZ wd) (notFace_of_selects (args := #[]) (mvT hZ ws)) (mvT hZ ws) (mvT hZ wst) hy hB qa qc (g := g) hg hsize (Steps.refl _) hlen hstack hW hdg (fun _ _ => ⟨rfl, eT, hcells, hslots⟩)
  dsimp only [Pt.U, Pt.locs, Pt.cells, Pt.slots] at X' hQ hL hC hS st
  subst hL hC hS
  exact ⟨w, U, L, hQ, X', fun t k => st.trans k⟩
/-- a call that left nothing behind -/
theorem own_clean {h : Heap} {w v : Option Value} {T' : State} {L : List Loc} {k0 n0 : Nat} (q : w = v ∧ L = [] ∧ T'.heap = h) (X : Stand p l e R s m args below meth c T' (locs ++ L) (cells + k0) (slots + n0)) (hk : k0 = 0) (hn : n0 = 0) : T'.heap = h ∧ Stand p l e R s m args below meth c T' locs cells slots := by
  obtain ⟨-, rfl, hh⟩ := q
  subst hk hn
  rw [List.append_nil] at X
  exact ⟨hh, X⟩
theorem own_nin {a b : Addr} (q : b ≠ a) : b ∉ [a] := fun h => q (List.mem_singleton.mp h)
theorem own_kt {h0 : Heap} {ws : List Addr} {a : Addr} (q : a ∈ ws ∨ h0.size ≤ a) : ∀ x ∈ [a], x ∈ ws ∨ h0.size ≤ x := fun x hx => by
  cases List.mem_singleton.mp hx; exact q
end New
end Jvm.RoadKit
namespace Jvm.RoadKit
open Sem ClassFile Op Lib Jvm.Stand Jvm.Free Jvm.LawKit
section Arrays
variable {p : Program} {l : Launch} {e : Env} {R : Room} {s : State} {m : MethodId} {args : Array Value} {below : List Frame} {meth : Method} {c : Code} {T : State} {locs : List Loc} {cells slots : Nat} {Z : State} {a0 : Array Value} {h h' : Heap} {a b : Addr} {ty : FieldType} {n : Nat} {f : Nat → Value}
/-- an array of n places; place i holds f i -/
def own_Ar (Z : State) (h : Heap) (a : Addr) (ty : FieldType) (n : Nat) (f : Nat → Value) : Prop := ∃ c : Cell, Arr Z h a c ty ∧ c.slots.size = n ∧ ∀ i, i < n → c.slots[i]? = some (f i)
theorem own_Ar.lt (F : own_Ar Z h a ty n f) : a < h.size := by obtain ⟨c, A, -⟩ := F; exact A.lt
theorem own_Ar.ext (F : own_Ar Z h a ty n f) (E : Ext h h') : own_Ar Z h' a ty n f := by obtain ⟨c, A, r⟩ := F; exact ⟨c, A.ext E, r⟩
theorem own_Ar.keep {ws : List Addr} (F : own_Ar Z h a ty n f) (K : Keep h h' ws) (q : a ∉ ws) : own_Ar Z h' a ty n f := by obtain ⟨c, A, r⟩ := F; exact ⟨c, ⟨K.2.1 a c A.1 q, A.2⟩, r⟩
theorem own_Ar.other {sl : Nat} {v : Value} (F : own_Ar Z h b ty n f) (W : Wr h h' a sl v) (q : b ≠ a) : own_Ar Z h' b ty n f := by obtain ⟨c, A, r⟩ := F; exact ⟨c, A.other W q, r⟩
theorem own_Ar.set {i : Nat} {v : Value} (F : own_Ar Z h a ty n f) (W : Wr h h' a i v) : own_Ar Z h' a ty n (fun j => if j = i then v else f j) := by
  obtain ⟨c, A, S, H⟩ := F
  refine ⟨c.setSlot i v, A.same W, by rw [sz_set]; exact S, fun j hj => ?_⟩
  show (c.slots.setIfInBounds i v)[j]? = some (if j = i then v else f j)
  rw [Array.getElem?_setIfInBounds]
  by_cases q : i = j
  · subst q
    rw [if_pos rfl, if_pos rfl, if_pos (by rw [S]; exact hj)]
  · rw [if_neg q, if_neg (Ne.symm q)]
    exact H j hj
theorem own_Ar.new {k : ClassId} {z : Int32} (A : Arr Z h a (newA k ty z) ty) : own_Ar Z h a ty z.toNatClampNeg (fun _ => defaultValue ty) := ⟨_, A, sz_new _ _ _, fun i hi => by simp [newA, hi]⟩
theorem own_Ar.congr {f' : Nat → Value} (F : own_Ar Z h a ty n f) (q : ∀ i, i < n → f i = f' i) : own_Ar Z h a ty n f' := by
  obtain ⟨c, A, S, H⟩ := F
  exact ⟨c, A, S, fun i hi => by rw [← q i hi]; exact H i hi⟩
theorem own_idx {j : Int32} {i : Nat} (hj : j.toInt = i) : j.toNatClampNeg = i := by
  show j.toInt.toNat = i
  omega
theorem own_in {j : Int32} {i n : Nat} (hj : j.toInt = i) (hi : i < n) : ¬ (j < 0 ∨ n ≤ j.toNatClampNeg) := by
  rw [own_idx hj, Int32.lt_iff_toInt_lt, Int32.toInt_zero]
  omega
theorem own_alen (X : Stand p l e R s m args below meth c T locs cells slots) (hx : p.tables.exec = Jvm.exec) (hZ : Z.Warmed39 s.vm) (eT : T.heap = h) (F : own_Ar Z h a ty n f) {z : Int32} (hz : n.toInt32 = z)
    {g : JFrame} (hg : g.method = m) {rest : List Value} (hs : g.stack = .ref a :: rest) (hd : decode c.code g.pc = .ok (.arraylength, 1)) : ∀ t, Steps p.tables e below (T.setTop { g with pc := g.pc + 1, stack := .int z :: rest }) t → Steps p.tables e below (T.setTop g) t := by
  obtain ⟨cl, A, S, H⟩ := F
  subst hz
  intro t k
  refine X.arraylength hx (cell := cl) (by rw [eT]; exact A.1) (State.isArrayOf_alike hZ.alike A.2.1) hg hs hd t ?_
  rw [S]
  exact k
theorem own_iald (X : Stand p l e R s m args below meth c T locs cells slots) (hx : p.tables.exec = Jvm.exec) (hZ : Z.Warmed39 s.vm) (eT : T.heap = h) (F : own_Ar Z h a .int n f) {j : Int32} {i : Nat} {v : Value} (hj : j.toInt = i) (hi : i < n) (hv : f i = v)
    {g : JFrame} (hg : g.method = m) {rest : List Value} (hs : g.stack = .int j :: .ref a :: rest) (hd : decode c.code g.pc = .ok (.iaload, 1)) : ∀ t, Steps p.tables e below (T.setTop { g with pc := g.pc + 1, stack := v :: rest }) t → Steps p.tables e below (T.setTop g) t := by
  obtain ⟨cl, A, S, H⟩ := F
  subst hv
  exact X.iaload hx (by rw [eT]; exact A.1) (State.isArrayOf_alike hZ.alike A.2.1) A.2.2 (by rw [S]; exact own_in hj hi) (by rw [own_idx hj]; exact H i hi) hg hs hd
theorem own_lald (X : Stand p l e R s m args below meth c T locs cells slots) (hx : p.tables.exec = Jvm.exec) (hZ : Z.Warmed39 s.vm) (eT : T.heap = h) (F : own_Ar Z h a .long n f) {j : Int32} {i : Nat} {v : Value} (hj : j.toInt = i) (hi : i < n) (hv : f i = v)
    {g : JFrame} (hg : g.method = m) {rest : List Value} (hs : g.stack = .int j :: .ref a :: rest) (hd : decode c.code g.pc = .ok (.laload, 1)) : ∀ t, Steps p.tables e below (T.setTop { g with pc := g.pc + 1, stack := v :: rest }) t → Steps p.tables e below (T.setTop g) t := by
  obtain ⟨cl, A, S, H⟩ := F
  subst hv
  exact X.laload hx (by rw [eT]; exact A.1) (State.isArrayOf_alike hZ.alike A.2.1) A.2.2 (by rw [S]; exact own_in hj hi) (by rw [own_idx hj]; exact H i hi) hg hs hd
theorem own_bald (X : Stand p l e R s m args below meth c T locs cells slots) (hx : p.tables.exec = Jvm.exec) (hZ : Z.Warmed39 s.vm) (eT : T.heap = h) (F : own_Ar Z h a .byte n f) {j : Int32} {i : Nat} {v : Value} (hj : j.toInt = i) (hi : i < n) (hv : f i = v)
    {g : JFrame} (hg : g.method = m) {rest : List Value} (hs : g.stack = .int j :: .ref a :: rest) (hd : decode c.code g.pc = .ok (.baload, 1)) : ∀ t, Steps p.tables e below (T.setTop { g with pc := g.pc + 1, stack := v :: rest }) t → Steps p.tables e below (T.setTop g) t := by
  obtain ⟨cl, A, S, H⟩ := F
  subst hv
  exact X.baloadBytes hx (by rw [eT]; exact A.1) (State.isArrayOf_alike hZ.alike A.2.1) A.2.2 (by rw [S]; exact own_in hj hi) (by rw [own_idx hj]; exact H i hi) hg hs hd
theorem own_zald (X : Stand p l e R s m args below meth c T locs cells slots) (hx : p.tables.exec = Jvm.exec) (hZ : Z.Warmed39 s.vm) (eT : T.heap = h) (F : own_Ar Z h a .boolean n f) {j : Int32} {i : Nat} {v : Value} (hj : j.toInt = i) (hi : i < n) (hv : f i = v)
    {g : JFrame} (hg : g.method = m) {rest : List Value} (hs : g.stack = .int j :: .ref a :: rest) (hd : decode c.code g.pc = .ok (.baload, 1)) : ∀ t, Steps p.tables e below (T.setTop { g with pc := g.pc + 1, stack := v :: rest }) t → Steps p.tables e below (T.setTop g) t := by
  obtain ⟨cl, A, S, H⟩ := F
  subst hv
  exact X.baloadBooleans hx (by rw [eT]; exact A.1) (State.isArrayOf_alike hZ.alike A.2.1) A.2.2 (by rw [S]; exact own_in hj hi) (by rw [own_idx hj]; exact H i hi) hg hs hd
theorem own_iast (X : Stand p l e R s m args below meth c T locs cells slots) (hx : p.tables.exec = Jvm.exec) (hZ : Z.Warmed39 s.vm) (eT : T.heap = h) (F : own_Ar Z h a .int n f) {j x : Int32} {i : Nat} (hj : j.toInt = i) (hi : i < n)
    {g : JFrame} (hg : g.method = m) {rest : List Value} (hs : g.stack = .int x :: .int j :: .ref a :: rest) (hd : decode c.code g.pc = .ok (.iastore, 1)) :
    ∃ T' h', Stand p l e R s m args below meth c T' (locs ++ [⟨a, i⟩]) cells slots ∧ T'.heap = h' ∧ Wr h h' a i (.int x) ∧ ∀ t, Steps p.tables e below (T'.setTop { g with pc := g.pc + 1, stack := rest }) t → Steps p.tables e below (T.setTop g) t := by
  obtain ⟨cl, A, S, H⟩ := F
  have r := stI X hx hZ eT A (j := j) (by rw [S]; exact own_in hj hi) hg hs hd
  rw [own_idx hj] at r
  exact r
theorem own_last (X : Stand p l e R s m args below meth c T locs cells slots) (hx : p.tables.exec = Jvm.exec) (hZ : Z.Warmed39 s.vm) (eT : T.heap = h) (F : own_Ar Z h a .long n f) {j : Int32} {x : Int64} {i : Nat} (hj : j.toInt = i) (hi : i < n)
    {g : JFrame} (hg : g.method = m) {rest : List Value} (hs : g.stack = .long x :: .int j :: .ref a :: rest) (hd : decode c.code g.pc = .ok (.lastore, 1)) :
    ∃ T' h', Stand p l e R s m args below meth c T' (locs ++ [⟨a, i⟩]) cells slots ∧ T'.heap = h' ∧ Wr h h' a i (.long x) ∧ ∀ t, Steps p.tables e below (T'.setTop { g with pc := g.pc + 1, stack := rest }) t → Steps p.tables e below (T.setTop g) t := by
  obtain ⟨cl, A, S, H⟩ := F
  have r := stJ X hx hZ eT A (j := j) (by rw [S]; exact own_in hj hi) hg hs hd
  rw [own_idx hj] at r
  exact r
theorem own_bast (X : Stand p l e R s m args below meth c T locs cells slots) (hx : p.tables.exec = Jvm.exec) (hZ : Z.Warmed39 s.vm) (eT : T.heap = h) (F : own_Ar Z h a .byte n f) {j x : Int32} {i : Nat} (hj : j.toInt = i) (hi : i < n)
    {g : JFrame} (hg : g.method = m) {rest : List Value} (hs : g.stack = .int x :: .int j :: .ref a :: rest) (hd : decode c.code g.pc = .ok (.bastore, 1)) :
    ∃ T' h', Stand p l e R s m args below meth c T' (locs ++ [⟨a, i⟩]) cells slots ∧ T'.heap = h' ∧ Wr h h' a i (.int (nar .byte x)) ∧ ∀ t, Steps p.tables e below (T'.setTop { g with pc := g.pc + 1, stack := rest }) t → Steps p.tables e below (T.setTop g) t := by
  obtain ⟨cl, A, S, H⟩ := F
  have r := stB X hx hZ eT A (j := j) (x := x) (by rw [S]; exact own_in hj hi) hg hs hd
  rw [own_idx hj] at r
  exact r
theorem own_zast (X : Stand p l e R s m args below meth c T locs cells slots) (hx : p.tables.exec = Jvm.exec) (hZ : Z.Warmed39 s.vm) (eT : T.heap = h) (F : own_Ar Z h a .boolean n f) {j x : Int32} {i : Nat} (hj : j.toInt = i) (hi : i < n)
    {g : JFrame} (hg : g.method = m) {rest : List Value} (hs : g.stack = .int x :: .int j :: .ref a :: rest) (hd : decode c.code g.pc = .ok (.bastore, 1)) :
    ∃ T' h', Stand p l e R s m args below meth c T' (locs ++ [⟨a, i⟩]) cells slots ∧ T'.heap = h' ∧ Wr h h' a i (.int (nar .boolean x)) ∧ ∀ t, Steps p.tables e below (T'.setTop { g with pc := g.pc + 1, stack := rest }) t → Steps p.tables e below (T.setTop g) t := by
  obtain ⟨cl, A, S, H⟩ := F
  have r := stZ X hx hZ eT A (j := j) (x := x) (by rw [S]; exact own_in hj hi) hg hs hd
  rw [own_idx hj] at r
  exact r
end Arrays
end Jvm.RoadKit
namespace Jvm.RoadKit
open Sem ClassFile Op Lib Jvm.Stand Jvm.Free Jvm.LawKit
section ArraysX
variable {p : Program} {l : Launch} {e : Env} {R : Room} {s : State} {m : MethodId} {args : Array Value} {below : List Frame} {meth : Method} {c : Code} {T : State} {locs : List Loc} {cells slots : Nat} {Z : State} {a0 : Array Value} {h h' : Heap} {a b : Addr} {ty : FieldType} {n : Nat} {f : Nat → Value}
/-- an int array of n places of which nothing else is said -/
def own_AI (Z : State) (h : Heap) (a : Addr) (n : Nat) : Prop := ∃ g : Nat → Int32, own_Ar Z h a .int n (fun i => .int (g i))
theorem own_AI.lt (F : own_AI Z h a n) : a < h.size := by obtain ⟨g, F⟩ := F; exact F.lt
theorem own_AI.ext (F : own_AI Z h a n) (E : Ext h h') : own_AI Z h' a n := by obtain ⟨g, F⟩ := F; exact ⟨g, F.ext E⟩
theorem own_AI.keep {ws : List Addr} (F : own_AI Z h a n) (K : Keep h h' ws) (q : a ∉ ws) : own_AI Z h' a n := by obtain ⟨g, F⟩ := F; exact ⟨g, F.keep K q⟩
theorem own_AI.other {sl : Nat} {v : Value} (F : own_AI Z h b n) (W : Wr h h' a sl v) (q : b ≠ a) : own_AI Z h' b n := by obtain ⟨g, F⟩ := F; exact ⟨g, F.other W q⟩
theorem own_AI.set {i : Nat} {v : Int32} (F : own_AI Z h a n) (W : Wr h h' a i (.int v)) : own_AI Z h' a n := by
  obtain ⟨g, F⟩ := F
  exact ⟨fun j => if j = i then v else g j, (F.set W).congr fun j _ => (apply_ite Value.int _ _ _).symm⟩
theorem own_AI.new {k : ClassId} {z : Int32} (A : Arr Z h a (newA k .int z) .int) : own_AI Z h a z.toNatClampNeg := ⟨fun _ => 0, own_Ar.new A⟩
end ArraysX
end Jvm.RoadKit
namespace Jvm.Pilot.@@N@@
open Jvm Jvm.ClassFile Sem Op Lib Jvm.Free Jvm.Stand Jvm.LawKit Jvm.RoadKit Bundle Jvm.Pilot.@@N@@.Jvm.D
/-! plain facts on ints and longs -/
theorem own_char16 (u : UInt16) : (u.toUInt32.toInt32).toInt = u.toNat := by
  have h := u.toNat_lt
  show BitVec.toInt u.toUInt32.toBitVec = _
  rw [BitVec.toInt_eq_toNat_of_lt (by simp; omega)]
  simp
theorem own_char (y : Int32) : 0 ≤ (y.toUInt32.toUInt16.toUInt32.toInt32).toInt ∧ (y.toUInt32.toUInt16.toUInt32.toInt32).toInt < 65536 := by
  rw [own_char16]
  have h := y.toUInt32.toUInt16.toNat_lt
  omega
theorem own_fin32 {P : Int32 → Prop} (n : Nat) (h : ∀ k : Fin n, P (Int32.ofNat k)) (c : Int32) (h0 : 0 ≤ c.toInt) (h1 : c.toInt < n) : P c := by
  have e : c = Int32.ofNat c.toInt.toNat := by
    apply Int32.toInt_inj.mp
    have hb := c.toInt_lt
    rw [Int32.toInt_ofNat_of_lt (by omega)]
    omega
  rw [e]
  exact h ⟨c.toInt.toNat, by omega⟩
theorem own_lt32 (x y : Int32) : (x < y) ↔ x.toInt < y.toInt := Int32.lt_iff_toInt_lt
theorem own_eq32 (x y : Int32) : (x = y) ↔ x.toInt = y.toInt := Int32.toInt_inj.symm
theorem own_lt64 (x y : Int64) : (x < y) ↔ x.toInt < y.toInt := Int64.lt_iff_toInt_lt
theorem own_eq64 (x y : Int64) : (x = y) ↔ x.toInt = y.toInt := Int64.toInt_inj.symm

def own_w (p0 p1 p2 p3 p4 : Int64) : Nat → Int64 := fun j => if j = 0 then p0 else if j = 1 then p1 else if j = 2 then p2 else if j = 3 then p3 else p4
def own_mf (w : Nat → Int64) : Nat → Int64 → Int32
  | 0, _ => 0
  | k + 1, m => if ((2 : Int64) * m) < w k then Int32.ofNat (k + 1) else if (2097152 : Int64) < (w k + m) then Int32.ofNat (k + 1) else own_mf w k (m + w k)
theorem own_mf_succ (w : Nat → Int64) (k : Nat) (m : Int64) : own_mf w (k + 1) m = if ((2 : Int64) * m) < w k then Int32.ofNat (k + 1) else if (2097152 : Int64) < (w k + m) then Int32.ofNat (k + 1) else own_mf w k (m + w k) := rfl
def own_mfr (w : Nat → Int64) : Nat → Int32
  | 0 => -1
  | k + 1 => own_mf w k (w k)
theorem own_toI {n : Nat} (h : n < 2147483648) : (Int32.ofNat n).toInt = n := Int32.toInt_ofNat_of_lt h
theorem own_last0 {n : Nat} (h : n < 2147483648) : (Int32.ofNat n - (1 : Int32)).toInt = (n : Int) - 1 := by
  have k1 : (1 : Int32).toInt = 1 := rfl
  have e := own_toI h
  rw [Jvm.Kit.i32_sub (by rw [k1, e]; omega) (by rw [k1, e]; omega), k1, e]
theorem own_pred {i : Int32} {k : Nat} (h : i.toInt = ((k + 1 : Nat) : Int)) : (i - (1 : Int32)).toInt = (k : Nat) := by
  have k1 : (1 : Int32).toInt = 1 := rfl
  have b := i.toInt_lt
  rw [Jvm.Kit.i32_sub (by rw [k1]; omega) (by rw [k1]; omega), k1, h]; omega
theorem own_dec {i : Int32} {k : Nat} (h : i.toInt = ((k + 1 : Nat) : Int)) : (i + (-1 : Int32)).toInt = (k : Nat) := by
  have k1 : (-1 : Int32).toInt = -1 := rfl
  have b := i.toInt_lt
  rw [Jvm.Kit.i32_add (by rw [k1]; omega) (by rw [k1]; omega), k1, h]; omega
theorem own_self {i : Int32} {k : Nat} (h : i.toInt = (k : Nat)) : Int32.ofNat k = i := by
  have b := i.toInt_lt
  rw [own_eq32, own_toI (by omega), h]

theorem own_first {n : Nat} (h : n < 2147483648) (hp : ¬ (Int32.ofNat n - (1 : Int32)) < (0 : Int32)) : (Int32.ofNat n - (1 : Int32)).toInt = ((n - 1 : Nat) : Int) := by
  have e := own_last0 h
  rw [own_lt32, e, Int32.toInt_zero] at hp
  omega
theorem own_mfr0 (w : Nat → Int64) {n : Nat} (hp : 0 < n) : own_mfr w n = own_mf w (n - 1) (w (n - 1)) := by
  obtain ⟨k, rfl⟩ : ∃ k, n = k + 1 := ⟨n - 1, by omega⟩
  rfl
theorem own_pos {n : Nat} (h : n < 2147483648) (hp : ¬ (Int32.ofNat n - (1 : Int32)) < (0 : Int32)) : 0 < n := by
  have e := own_last0 h
  rw [own_lt32, e, Int32.toInt_zero] at hp
  omega
theorem own_neg0 {n : Nat} (h : n < 2147483648) (hz : n = 0) : ¬ (0 : Int32) < (Int32.ofNat n - (1 : Int32)) := by
  subst hz
  decide
theorem own_five {x0 : Int32} (h : 0 ≤ x0.toInt ∧ x0.toInt ≤ 5) (h0 : ¬ x0 = (0 : Int32)) (h1 : ¬ x0 = (1 : Int32)) (h2 : ¬ x0 = (2 : Int32)) (h3 : ¬ x0 = (3 : Int32)) (h4 : ¬ x0 = (4 : Int32)) : x0 = (5 : Int32) := by
  rw [own_eq32] at *
  simp only [Int32.reduceToInt] at *
  omega
def own_n (x0 : Int32) : Nat := ((x0 &&& (7 : Int32)) % (6 : Int32)).toInt.toNat
theorem own_nb (x0 : Int32) : 0 ≤ ((x0 &&& (7 : Int32)) % (6 : Int32)).toInt ∧ ((x0 &&& (7 : Int32)) % (6 : Int32)).toInt ≤ 5 := by
  have a : (x0 &&& (7 : Int32)).toInt = x0.toInt % 2 ^ 3 := Jvm.Kit.i32_mask x0 _ (k := 3) (by decide) (by decide)
  have b : ((x0 &&& (7 : Int32)) % (6 : Int32)).toInt = (x0 &&& (7 : Int32)).toInt % 6 := Jvm.Kit.i32_rem_nonneg (by omega)
  omega
theorem own_ne (x0 : Int32) : ((x0 &&& (7 : Int32)) % (6 : Int32)).toInt = own_n x0 := by
  have h := own_nb x0
  unfold own_n
  omega
theorem own_n5 (x0 : Int32) : own_n x0 ≤ 5 := by
  have h := own_nb x0
  have e := own_ne x0
  omega
theorem own_fj {x0 f : Int32} (h0 : ¬ f < (0 : Int32)) (h1 : ¬ (((x0 &&& (7 : Int32)) % (6 : Int32)) - (1 : Int32)) < f) (h2 : ¬ f = (0 : Int32)) : f.toInt = ((f.toInt.toNat - 1 + 1 : Nat) : Int) ∧ f.toInt.toNat - 1 < 4 := by
  have hb := own_nb x0
  have k1 : (1 : Int32).toInt = 1 := rfl
  have s : (((x0 &&& (7 : Int32)) % (6 : Int32)) - (1 : Int32)).toInt = ((x0 &&& (7 : Int32)) % (6 : Int32)).toInt - 1 := by rw [Jvm.Kit.i32_sub (by rw [k1]; omega) (by rw [k1]; omega), k1]
  rw [own_lt32, Int32.toInt_zero] at h0
  rw [own_lt32, s] at h1
  rw [own_eq32, Int32.toInt_zero] at h2
  omega

theorem d4_0 : decode method_4_code 0 = .ok (.aload_n 0, 1) := by decide +kernel
theorem d4_1 : decode method_4_code 1 = .ok (.iload_n 2, 1) := by decide +kernel
theorem d4_2 : decode method_4_code 2 = .ok (.iconst 1, 1) := by decide +kernel
theorem d4_3 : decode method_4_code 3 = .ok (.isub, 1) := by decide +kernel
theorem d4_4 : decode method_4_code 4 = .ok (.laload, 1) := by decide +kernel
theorem d4_5 : decode method_4_code 5 = .ok (.ldc2_w 29, 3) := by decide +kernel
theorem d4_8 : decode method_4_code 8 = .ok (.aload_n 1, 1) := by decide +kernel
theorem d4_9 : decode method_4_code 9 = .ok (.iload_n 2, 1) := by decide +kernel
theorem d4_10 : decode method_4_code 10 = .ok (.laload, 1) := by decide +kernel
theorem d4_11 : decode method_4_code 11 = .ok (.lmul, 1) := by decide +kernel
theorem d4_12 : decode method_4_code 12 = .ok (.lcmp, 1) := by decide +kernel
theorem d4_13 : decode method_4_code 13 = .ok (.ifCond .gt 23, 3) := by decide +kernel
theorem d4_16 : decode method_4_code 16 = .ok (.aload_n 0, 1) := by decide +kernel
theorem d4_17 : decode method_4_code 17 = .ok (.iload_n 2, 1) := by decide +kernel
theorem d4_18 : decode method_4_code 18 = .ok (.iconst 1, 1) := by decide +kernel
theorem d4_19 : decode method_4_code 19 = .ok (.isub, 1) := by decide +kernel
theorem d4_20 : decode method_4_code 20 = .ok (.laload, 1) := by decide +kernel
theorem d4_21 : decode method_4_code 21 = .ok (.aload_n 1, 1) := by decide +kernel
theorem d4_22 : decode method_4_code 22 = .ok (.iload_n 2, 1) := by decide +kernel
theorem d4_23 : decode method_4_code 23 = .ok (.laload, 1) := by decide +kernel
theorem d4_24 : decode method_4_code 24 = .ok (.ladd, 1) := by decide +kernel
theorem d4_25 : decode method_4_code 25 = .ok (.ldc2_w 31, 3) := by decide +kernel
theorem d4_28 : decode method_4_code 28 = .ok (.lcmp, 1) := by decide +kernel
theorem d4_29 : decode method_4_code 29 = .ok (.ifCond .gt 7, 3) := by decide +kernel
theorem d4_32 : decode method_4_code 32 = .ok (.iconst 1, 1) := by decide +kernel
theorem d4_33 : decode method_4_code 33 = .ok (.goto 4, 3) := by decide +kernel
theorem d4_36 : decode method_4_code 36 = .ok (.iconst 0, 1) := by decide +kernel
theorem d4_37 : decode method_4_code 37 = .ok (.ireturn, 1) := by decide +kernel
theorem pn_4 : plainName "com/example/backtrail/backtrail/core/GraphMergeMergeFromPinLaw" = true := by first | (simp [plainName, overriddenIn]; done) | decide +kernel
theorem pd_4 : parseMethodDescriptor "([J[JI)Z" = some ⟨[(.array .long), (.array .long), .int], (some .boolean)⟩ := by decide +kernel
theorem ef_4 (m : MethodId) (x0 : Addr) (x1 : Addr) (x2 : Int32) : entryFrame m #[(.ref x0), (.ref x1), (.int x2)] 3 = mkF m 0 #[.val (.ref x0), .val (.ref x1), .val (.int x2)] [] := by first | (simp [entryFrame, mkF, argsToLocals, Value.category]; done) | rfl
def own_f4 (P S : Nat → Int64) (j : Nat) : Int32 := (if ((2 : Int64) * (S (j + 1))) < (P j) then (0 : Int32) else (if (2097152 : Int64) < ((P j) + (S (j + 1))) then (0 : Int32) else (1 : Int32)))
def own_F4 (Z : State) (x0 : Addr) (x1 : Addr) (x2 : Int32) (P S : Nat → Int64) (j : Nat) (n0 : Nat) (h0 : Heap) (v : Option Value) (h : Heap) (L : List Loc) : Prop := v = some (.int (own_f4 P S j)) ∧ L = [] ∧ h = h0
set_option maxRecDepth 65536 in
set_option maxHeartbeats 40000000 in
theorem own_m4 (l : Launch) (Z : State) (a0 : Array Value) (hw : ∀ d ∈ tables_1, d.before a0 Z = true) (ws : List Jvm.Cond) (x0 : Addr) (x1 : Addr) (x2 : Int32) (P S : Nat → Int64) (j : Nat) (n0 : Nat) (h0 : Heap)  (A0 : own_Ar Z h0 x0 .long 5 (fun uu => .long (P uu))) (A1 : own_Ar Z h0 x1 .long 5 (fun uu => .long (S uu))) (hj : x2.toInt = ((j + 1 : Nat) : Int)) (hj4 : j < 4) :
    MetFree l (⟨"com/example/backtrail/backtrail/core/GraphMergeMergeFromPinLaw", "step", "([J[JI)Z"⟩ : MethodName) (head1 (Jvm.Cond.code (⟨"com/example/backtrail/backtrail/core/GraphMergeMergeFromPinLaw", "step", "([J[JI)Z"⟩ : MethodName) method_4_code 3 (some .boolean) :: ws) ({ frames := 0, cells := 0, slots := 0, locals := 0 } : Room)) (fun a U => a = #[(.ref x0), (.ref x1), (.int x2)] ∧ Z.Warmed39 U.vm ∧ U.heap = h0) (fun _ _ _ _ _ => True) (fun _ U o U' => ∃ v L, o = .returned v ∧ own_F4 Z x0 x1 x2 P S j n0 h0 v U'.heap L ∧ FrameEnd U o U' L ({ frames := 0, cells := 0, slots := 0, locals := 0 } : Room).cells ({ frames := 0, cells := 0, slots := 0, locals := 0 } : Room).slots) := by
  refine MetFree.of_bodySF (plainFor_of_name pn_4) hisR ?_
  intro p e s m args below meth c s₁ Bd hml0 hP hK
  obtain ⟨rfl, hZ, hh⟩ := hP
  have hx := Bd.exec
  have hby := Bd.bytes
  have hml : c.maxLocals = 3 := hml0
  have hown : s.vm.findClass "com/example/backtrail/backtrail/core/GraphMergeMergeFromPinLaw" = some m.cls := findClass_of_methodNamed Bd.named
  have hnm := (name_of_methodNamed Bd.named Bd.method).1
  have X0 : Stand p l e ({ frames := 0, cells := 0, slots := 0, locals := 0 } : Room) s m #[(.ref x0), (.ref x1), (.int x2)] below meth c s₁ [] 0 0 := Stand.of_body Bd
  have e0 : s₁.heap = h0 := by rw [← hh, Bd.state]; rfl
  have N0 := Fr.nil n0
  have K0 : Keep h0 h0 [] := Keep.refl h0 []
  have hgo : own_Goes p e below s (own_F4 Z x0 x1 x2 P S j n0 h0) 0 0 (s₁.setTop (mkF m 0 #[.val (.ref x0), .val (.ref x1), .val (.int x2)] [])) := by
    refine own_Goes.step (fun tq kq => XS.aloadN X0.here hx rfl (hb hby d4_0) rfl rfl kq) ?_
    show own_Goes p e below s (own_F4 Z x0 x1 x2 P S j n0 h0) 0 0 (s₁.setTop (mkF m 1 #[.val (.ref x0), .val (.ref x1), .val (.int x2)] [(.ref x0)]))
    refine own_Goes.step (fun tq kq => XS.iloadN X0.here hx rfl (hb hby d4_1) rfl kq) ?_
    show own_Goes p e below s (own_F4 Z x0 x1 x2 P S j n0 h0) 0 0 (s₁.setTop (mkF m 2 #[.val (.ref x0), .val (.ref x1), .val (.int x2)] [(.int x2), (.ref x0)]))
    refine own_Goes.step (fun tq kq => XT.iconstV X0.here hx rfl (1 : Int32) (hb hby d4_2) (by decide) kq) ?_
    show own_Goes p e below s (own_F4 Z x0 x1 x2 P S j n0 h0) 0 0 (s₁.setTop (mkF m 3 #[.val (.ref x0), .val (.ref x1), .val (.int x2)] [(.int (1 : Int32)), (.int x2), (.ref x0)]))
    refine own_Goes.step (fun tq kq => XS.isub X0.here hx rfl (hb hby d4_3) rfl kq) ?_
    show own_Goes p e below s (own_F4 Z x0 x1 x2 P S j n0 h0) 0 0 (s₁.setTop (mkF m 4 #[.val (.ref x0), .val (.ref x1), .val (.int x2)] [(.int (x2 - (1 : Int32))), (.ref x0)]))
    refine own_Goes.step (own_lald X0 hx hZ e0 A0 (i := j) (own_pred hj) (by omega) (v := (.long (P j))) rfl (g := (mkF m 4 #[.val (.ref x0), .val (.ref x1), .val (.int x2)] [(.int (x2 - (1 : Int32))), (.ref x0)])) rfl rfl (hb hby d4_4)) ?_
    show own_Goes p e below s (own_F4 Z x0 x1 x2 P S j n0 h0) 0 0 (s₁.setTop (mkF m 5 #[.val (.ref x0), .val (.ref x1), .val (.int x2)] [(.long (P j))]))
    refine own_Goes.step (fun tq kq => X0.ldc2J hx hown (mvT hZ (hw _ (List.mem_of_getElem? (i := 18) rfl))) rfl (hb hby d4_5) kq) ?_
    show own_Goes p e below s (own_F4 Z x0 x1 x2 P S j n0 h0) 0 0 (s₁.setTop (mkF m 8 #[.val (.ref x0), .val (.ref x1), .val (.int x2)] [(.long (2 : Int64)), (.long (P j))]))
    refine own_Goes.step (fun tq kq => XS.aloadN X0.here hx rfl (hb hby d4_8) rfl rfl kq) ?_
    show own_Goes p e below s (own_F4 Z x0 x1 x2 P S j n0 h0) 0 0 (s₁.setTop (mkF m 9 #[.val (.ref x0), .val (.ref x1), .val (.int x2)] [(.ref x1), (.long (2 : Int64)), (.long (P j))]))
    refine own_Goes.step (fun tq kq => XS.iloadN X0.here hx rfl (hb hby d4_9) rfl kq) ?_
    show own_Goes p e below s (own_F4 Z x0 x1 x2 P S j n0 h0) 0 0 (s₁.setTop (mkF m 10 #[.val (.ref x0), .val (.ref x1), .val (.int x2)] [(.int x2), (.ref x1), (.long (2 : Int64)), (.long (P j))]))
    refine own_Goes.step (own_lald X0 hx hZ e0 A1 (i := j + 1) hj (by omega) (v := (.long (S (j + 1)))) rfl (g := (mkF m 10 #[.val (.ref x0), .val (.ref x1), .val (.int x2)] [(.int x2), (.ref x1), (.long (2 : Int64)), (.long (P j))])) rfl rfl (hb hby d4_10)) ?_
    show own_Goes p e below s (own_F4 Z x0 x1 x2 P S j n0 h0) 0 0 (s₁.setTop (mkF m 11 #[.val (.ref x0), .val (.ref x1), .val (.int x2)] [(.long (S (j + 1))), (.long (2 : Int64)), (.long (P j))]))
    refine own_Goes.step (fun tq kq => XT.lmul X0.here hx rfl (hb hby d4_11) rfl kq) ?_
    show own_Goes p e below s (own_F4 Z x0 x1 x2 P S j n0 h0) 0 0 (s₁.setTop (mkF m 12 #[.val (.ref x0), .val (.ref x1), .val (.int x2)] [(.long ((2 : Int64) * (S (j + 1)))), (.long (P j))]))
    refine own_Goes.step (fun tq kq => XT.lcmp X0.here hx rfl (hb hby d4_12) rfl kq) ?_
    show own_Goes p e below s (own_F4 Z x0 x1 x2 P S j n0 h0) 0 0 (s₁.setTop (mkF m 13 #[.val (.ref x0), .val (.ref x1), .val (.int x2)] [(.int (XT.cmpL (P j) ((2 : Int64) * (S (j + 1)))))]))
    by_cases hc3 : ((2 : Int64) * (S (j + 1))) < (P j)
    · refine own_Goes.step (fun tq kq => XS.ifYes X0.here hx rfl (pc0 := 13) (pc' := 36) rfl (hb hby d4_13) rfl (XT.ll_gt_t hc3) (by decide) (by decide) kq) ?_
      show own_Goes p e below s (own_F4 Z x0 x1 x2 P S j n0 h0) 0 0 (s₁.setTop (mkF m 36 #[.val (.ref x0), .val (.ref x1), .val (.int x2)] []))
      refine own_Goes.step (fun tq kq => XT.iconstV X0.here hx rfl (0 : Int32) (hb hby d4_36) (by decide) kq) ?_
      show own_Goes p e below s (own_F4 Z x0 x1 x2 P S j n0 h0) 0 0 (s₁.setTop (mkF m 37 #[.val (.ref x0), .val (.ref x1), .val (.int x2)] [(.int (0 : Int32))]))
      refine own_endN X0 hx Bd.notSynchronized (t := .boolean) Bd.returns (by simp) (hb hby d4_37) ?_ (by decide) (by decide)
      show own_F4 Z x0 x1 x2 P S j n0 h0 _ s₁.heap _
      rw [e0]
      exact ⟨congrArg (fun z => some (Value.int z)) (show (0 : Int32) = own_f4 P S j from by simp only [own_f4, if_pos hc3]), rfl, rfl⟩
    · refine own_Goes.step (fun tq kq => XS.ifNo X0.here hx rfl (hb hby d4_13) rfl (XT.ll_gt_f hc3) kq) ?_
      show own_Goes p e below s (own_F4 Z x0 x1 x2 P S j n0 h0) 0 0 (s₁.setTop (mkF m 16 #[.val (.ref x0), .val (.ref x1), .val (.int x2)] []))
      refine own_Goes.step (fun tq kq => XS.aloadN X0.here hx rfl (hb hby d4_16) rfl rfl kq) ?_
      show own_Goes p e below s (own_F4 Z x0 x1 x2 P S j n0 h0) 0 0 (s₁.setTop (mkF m 17 #[.val (.ref x0), .val (.ref x1), .val (.int x2)] [(.ref x0)]))
      refine own_Goes.step (fun tq kq => XS.iloadN X0.here hx rfl (hb hby d4_17) rfl kq) ?_
      show own_Goes p e below s (own_F4 Z x0 x1 x2 P S j n0 h0) 0 0 (s₁.setTop (mkF m 18 #[.val (.ref x0), .val (.ref x1), .val (.int x2)] [(.int x2), (.ref x0)]))
      refine own_Goes.step (fun tq kq => XT.iconstV X0.here hx rfl (1 : Int32) (hb hby d4_18) (by decide) kq) ?_
      show own_Goes p e below s (own_F4 Z x0 x1 x2 P S j n0 h0) 0 0 (s₁.setTop (mkF m 19 #[.val (.ref x0), .val (.ref x1), .val (.int x2)] [(.int (1 : Int32)), (.int x2), (.ref x0)]))
      refine own_Goes.step (fun tq kq => XS.isub X0.here hx rfl (hb hby d4_19) rfl kq) ?_
      show own_Goes p e below s (own_F4 Z x0 x1 x2 P S j n0 h0) 0 0 (s₁.setTop (mkF m 20 #[.val (.ref x0), .val (.ref x1), .val (.int x2)] [(.int (x2 - (1 : Int32))), (.ref x0)]))
      refine own_Goes.step (own_lald X0 hx hZ e0 A0 (i := j) (own_pred hj) (by omega) (v := (.long (P j))) rfl (g := (mkF m 20 #[.val (.ref x0), .val (.ref x1), .val (.int x2)] [(.int (x2 - (1 : Int32))), (.ref x0)])) rfl rfl (hb hby d4_20)) ?_
      show own_Goes p e below s (own_F4 Z x0 x1 x2 P S j n0 h0) 0 0 (s₁.setTop (mkF m 21 #[.val (.ref x0), .val (.ref x1), .val (.int x2)] [(.long (P j))]))
      refine own_Goes.step (fun tq kq => XS.aloadN X0.here hx rfl (hb hby d4_21) rfl rfl kq) ?_
      show own_Goes p e below s (own_F4 Z x0 x1 x2 P S j n0 h0) 0 0 (s₁.setTop (mkF m 22 #[.val (.ref x0), .val (.ref x1), .val (.int x2)] [(.ref x1), (.long (P j))]))
      refine own_Goes.step (fun tq kq => XS.iloadN X0.here hx rfl (hb hby d4_22) rfl kq) ?_
      show own_Goes p e below s (own_F4 Z x0 x1 x2 P S j n0 h0) 0 0 (s₁.setTop (mkF m 23 #[.val (.ref x0), .val (.ref x1), .val (.int x2)] [(.int x2), (.ref x1), (.long (P j))]))
      refine own_Goes.step (own_lald X0 hx hZ e0 A1 (i := j + 1) hj (by omega) (v := (.long (S (j + 1)))) rfl (g := (mkF m 23 #[.val (.ref x0), .val (.ref x1), .val (.int x2)] [(.int x2), (.ref x1), (.long (P j))])) rfl rfl (hb hby d4_23)) ?_
      show own_Goes p e below s (own_F4 Z x0 x1 x2 P S j n0 h0) 0 0 (s₁.setTop (mkF m 24 #[.val (.ref x0), .val (.ref x1), .val (.int x2)] [(.long (S (j + 1))), (.long (P j))]))
      refine own_Goes.step (fun tq kq => XT.ladd X0.here hx rfl (hb hby d4_24) rfl kq) ?_
      show own_Goes p e below s (own_F4 Z x0 x1 x2 P S j n0 h0) 0 0 (s₁.setTop (mkF m 25 #[.val (.ref x0), .val (.ref x1), .val (.int x2)] [(.long ((P j) + (S (j + 1))))]))
      refine own_Goes.step (fun tq kq => X0.ldc2J hx hown (mvT hZ (hw _ (List.mem_of_getElem? (i := 19) rfl))) rfl (hb hby d4_25) kq) ?_
      show own_Goes p e below s (own_F4 Z x0 x1 x2 P S j n0 h0) 0 0 (s₁.setTop (mkF m 28 #[.val (.ref x0), .val (.ref x1), .val (.int x2)] [(.long (2097152 : Int64)), (.long ((P j) + (S (j + 1))))]))
      refine own_Goes.step (fun tq kq => XT.lcmp X0.here hx rfl (hb hby d4_28) rfl kq) ?_
      show own_Goes p e below s (own_F4 Z x0 x1 x2 P S j n0 h0) 0 0 (s₁.setTop (mkF m 29 #[.val (.ref x0), .val (.ref x1), .val (.int x2)] [(.int (XT.cmpL ((P j) + (S (j + 1))) (2097152 : Int64)))]))
      by_cases hc6 : (2097152 : Int64) < ((P j) + (S (j + 1)))
      · refine own_Goes.step (fun tq kq => XS.ifYes X0.here hx rfl (pc0 := 29) (pc' := 36) rfl (hb hby d4_29) rfl (XT.ll_gt_t hc6) (by decide) (by decide) kq) ?_
        show own_Goes p e below s (own_F4 Z x0 x1 x2 P S j n0 h0) 0 0 (s₁.setTop (mkF m 36 #[.val (.ref x0), .val (.ref x1), .val (.int x2)] []))
        refine own_Goes.step (fun tq kq => XT.iconstV X0.here hx rfl (0 : Int32) (hb hby d4_36) (by decide) kq) ?_
        show own_Goes p e below s (own_F4 Z x0 x1 x2 P S j n0 h0) 0 0 (s₁.setTop (mkF m 37 #[.val (.ref x0), .val (.ref x1), .val (.int x2)] [(.int (0 : Int32))]))
        refine own_endN X0 hx Bd.notSynchronized (t := .boolean) Bd.returns (by simp) (hb hby d4_37) ?_ (by decide) (by decide)
        show own_F4 Z x0 x1 x2 P S j n0 h0 _ s₁.heap _
        rw [e0]
        exact ⟨congrArg (fun z => some (Value.int z)) (show (0 : Int32) = own_f4 P S j from by simp only [own_f4, if_neg hc3, if_pos hc6]), rfl, rfl⟩
      · refine own_Goes.step (fun tq kq => XS.ifNo X0.here hx rfl (hb hby d4_29) rfl (XT.ll_gt_f hc6) kq) ?_
        show own_Goes p e below s (own_F4 Z x0 x1 x2 P S j n0 h0) 0 0 (s₁.setTop (mkF m 32 #[.val (.ref x0), .val (.ref x1), .val (.int x2)] []))
        refine own_Goes.step (fun tq kq => XT.iconstV X0.here hx rfl (1 : Int32) (hb hby d4_32) (by decide) kq) ?_
        show own_Goes p e below s (own_F4 Z x0 x1 x2 P S j n0 h0) 0 0 (s₁.setTop (mkF m 33 #[.val (.ref x0), .val (.ref x1), .val (.int x2)] [(.int (1 : Int32))]))
        refine own_Goes.step (fun tq kq => XS.goto X0.here hx rfl (pc0 := 33) (pc' := 37) rfl (hb hby d4_33) (by decide) (by decide) kq) ?_
        show own_Goes p e below s (own_F4 Z x0 x1 x2 P S j n0 h0) 0 0 (s₁.setTop (mkF m 37 #[.val (.ref x0), .val (.ref x1), .val (.int x2)] [(.int (1 : Int32))]))
        refine own_endN X0 hx Bd.notSynchronized (t := .boolean) Bd.returns (by simp) (hb hby d4_37) ?_ (by decide) (by decide)
        show own_F4 Z x0 x1 x2 P S j n0 h0 _ s₁.heap _
        rw [e0]
        exact ⟨congrArg (fun z => some (Value.int z)) (show (1 : Int32) = own_f4 P S j from by simp only [own_f4, if_neg hc3, if_neg hc6]), rfl, rfl⟩
  obtain ⟨t2, o2, q1, q2, q3, q4⟩ := hgo
  exact ⟨t2, o2, castTop (ef_4 m x0 x1 x2) q1, q2, q3, q4⟩
theorem d3_0 : decode method_5_code 0 = .ok (.iload 4, 2) := by decide +kernel
theorem d3_2 : decode method_5_code 2 = .ok (.iload_n 2, 1) := by decide +kernel
theorem d3_3 : decode method_5_code 3 = .ok (.if_icmp .le 21, 3) := by decide +kernel
theorem d3_6 : decode method_5_code 6 = .ok (.iload 4, 2) := by decide +kernel
theorem d3_8 : decode method_5_code 8 = .ok (.iload_n 3, 1) := by decide +kernel
theorem d3_9 : decode method_5_code 9 = .ok (.iconst 1, 1) := by decide +kernel
theorem d3_10 : decode method_5_code 10 = .ok (.isub, 1) := by decide +kernel
theorem d3_11 : decode method_5_code 11 = .ok (.if_icmp .gt 13, 3) := by decide +kernel
theorem d3_14 : decode method_5_code 14 = .ok (.aload_n 0, 1) := by decide +kernel
theorem d3_15 : decode method_5_code 15 = .ok (.aload_n 1, 1) := by decide +kernel
theorem d3_16 : decode method_5_code 16 = .ok (.iload 4, 2) := by decide +kernel
theorem d3_18 : decode method_5_code 18 = .ok (.invokestatic 25, 3) := by decide +kernel
theorem d3_21 : decode method_5_code 21 = .ok (.ifCond .eq 7, 3) := by decide +kernel
theorem d3_24 : decode method_5_code 24 = .ok (.iconst 1, 1) := by decide +kernel
theorem d3_25 : decode method_5_code 25 = .ok (.goto 4, 3) := by decide +kernel
theorem d3_28 : decode method_5_code 28 = .ok (.iconst 0, 1) := by decide +kernel
theorem d3_29 : decode method_5_code 29 = .ok (.ireturn, 1) := by decide +kernel
theorem pn_3 : plainName "com/example/backtrail/backtrail/core/GraphMergeMergeFromPinLaw" = true := by first | (simp [plainName, overriddenIn]; done) | decide +kernel
theorem pd_3 : parseMethodDescriptor "([J[JIII)Z" = some ⟨[(.array .long), (.array .long), .int, .int, .int], (some .boolean)⟩ := by decide +kernel
theorem ef_3 (m : MethodId) (x0 : Addr) (x1 : Addr) (x2 : Int32) (x3 : Int32) (x4 : Int32) : entryFrame m #[(.ref x0), (.ref x1), (.int x2), (.int x3), (.int x4)] 5 = mkF m 0 #[.val (.ref x0), .val (.ref x1), .val (.int x2), .val (.int x3), .val (.int x4)] [] := by first | (simp [entryFrame, mkF, argsToLocals, Value.category]; done) | rfl
def own_f3 (x2 x3 x4 : Int32) (P S : Nat → Int64) (j : Nat) : Int32 := (if x2 < x4 then (if (x3 - (1 : Int32)) < x4 then (1 : Int32) else (if (own_f4 P S j) = (0 : Int32) then (0 : Int32) else (1 : Int32))) else (1 : Int32))
def own_F3 (Z : State) (x0 : Addr) (x1 : Addr) (x2 : Int32) (x3 : Int32) (x4 : Int32) (P S : Nat → Int64) (j : Nat) (n0 : Nat) (h0 : Heap) (v : Option Value) (h : Heap) (L : List Loc) : Prop := v = some (.int (own_f3 x2 x3 x4 P S j)) ∧ L = [] ∧ h = h0
set_option maxRecDepth 65536 in
set_option maxHeartbeats 40000000 in
theorem own_m3 (l : Launch) (Z : State) (a0 : Array Value) (hw : ∀ d ∈ tables_1, d.before a0 Z = true) (ws : List Jvm.Cond) (x0 : Addr) (x1 : Addr) (x2 : Int32) (x3 : Int32) (x4 : Int32) (P S : Nat → Int64) (j : Nat) (n0 : Nat) (h0 : Heap)  (A0 : own_Ar Z h0 x0 .long 5 (fun uu => .long (P uu))) (A1 : own_Ar Z h0 x1 .long 5 (fun uu => .long (S uu))) (hj : x4.toInt = ((j + 1 : Nat) : Int)) (hj4 : j < 4) :
    MetFree l (⟨"com/example/backtrail/backtrail/core/GraphMergeMergeFromPinLaw", "holds", "([J[JIII)Z"⟩ : MethodName) (head1 (Jvm.Cond.code (⟨"com/example/backtrail/backtrail/core/GraphMergeMergeFromPinLaw", "holds", "([J[JIII)Z"⟩ : MethodName) method_5_code 5 (some .boolean) :: ws) ({ frames := 1, cells := 0, slots := 0, locals := 14 } : Room)) (fun a U => a = #[(.ref x0), (.ref x1), (.int x2), (.int x3), (.int x4)] ∧ Z.Warmed39 U.vm ∧ U.heap = h0) (fun _ _ _ _ _ => True) (fun _ U o U' => ∃ v L, o = .returned v ∧ own_F3 Z x0 x1 x2 x3 x4 P S j n0 h0 v U'.heap L ∧ FrameEnd U o U' L ({ frames := 1, cells := 0, slots := 0, locals := 14 } : Room).cells ({ frames := 1, cells := 0, slots := 0, locals := 14 } : Room).slots) := by
  refine MetFree.of_bodySF (plainFor_of_name pn_3) hisR ?_
  intro p e s m args below meth c s₁ Bd hml0 hP hK
  obtain ⟨rfl, hZ, hh⟩ := hP
  have hx := Bd.exec
  have hby := Bd.bytes
  have hml : c.maxLocals = 5 := hml0
  have hown : s.vm.findClass "com/example/backtrail/backtrail/core/GraphMergeMergeFromPinLaw" = some m.cls := findClass_of_methodNamed Bd.named
  have hnm := (name_of_methodNamed Bd.named Bd.method).1
  have X0 : Stand p l e ({ frames := 1, cells := 0, slots := 0, locals := 14 } : Room) s m #[(.ref x0), (.ref x1), (.int x2), (.int x3), (.int x4)] below meth c s₁ [] 0 0 := Stand.of_body Bd
  have e0 : s₁.heap = h0 := by rw [← hh, Bd.state]; rfl
  have N0 := Fr.nil n0
  have K0 : Keep h0 h0 [] := Keep.refl h0 []
  have hgo : own_Goes p e below s (own_F3 Z x0 x1 x2 x3 x4 P S j n0 h0) 0 0 (s₁.setTop (mkF m 0 #[.val (.ref x0), .val (.ref x1), .val (.int x2), .val (.int x3), .val (.int x4)] [])) := by
    refine own_Goes.step (fun tq kq => XS.iload X0.here hx rfl (hb hby d3_0) rfl kq) ?_
    show own_Goes p e below s (own_F3 Z x0 x1 x2 x3 x4 P S j n0 h0) 0 0 (s₁.setTop (mkF m 2 #[.val (.ref x0), .val (.ref x1), .val (.int x2), .val (.int x3), .val (.int x4)] [(.int x4)]))
    refine own_Goes.step (fun tq kq => XS.iloadN X0.here hx rfl (hb hby d3_2) rfl kq) ?_
    show own_Goes p e below s (own_F3 Z x0 x1 x2 x3 x4 P S j n0 h0) 0 0 (s₁.setTop (mkF m 3 #[.val (.ref x0), .val (.ref x1), .val (.int x2), .val (.int x3), .val (.int x4)] [(.int x2), (.int x4)]))
    by_cases hc1 : x2 < x4
    · refine own_Goes.step (fun tq kq => XS.icmpNo X0.here hx rfl (hb hby d3_3) rfl (XT.ii_le_f hc1) kq) ?_
      show own_Goes p e below s (own_F3 Z x0 x1 x2 x3 x4 P S j n0 h0) 0 0 (s₁.setTop (mkF m 6 #[.val (.ref x0), .val (.ref x1), .val (.int x2), .val (.int x3), .val (.int x4)] []))
      refine own_Goes.step (fun tq kq => XS.iload X0.here hx rfl (hb hby d3_6) rfl kq) ?_
      show own_Goes p e below s (own_F3 Z x0 x1 x2 x3 x4 P S j n0 h0) 0 0 (s₁.setTop (mkF m 8 #[.val (.ref x0), .val (.ref x1), .val (.int x2), .val (.int x3), .val (.int x4)] [(.int x4)]))
      refine own_Goes.step (fun tq kq => XS.iloadN X0.here hx rfl (hb hby d3_8) rfl kq) ?_
      show own_Goes p e below s (own_F3 Z x0 x1 x2 x3 x4 P S j n0 h0) 0 0 (s₁.setTop (mkF m 9 #[.val (.ref x0), .val (.ref x1), .val (.int x2), .val (.int x3), .val (.int x4)] [(.int x3), (.int x4)]))
      refine own_Goes.step (fun tq kq => XT.iconstV X0.here hx rfl (1 : Int32) (hb hby d3_9) (by decide) kq) ?_
      show own_Goes p e below s (own_F3 Z x0 x1 x2 x3 x4 P S j n0 h0) 0 0 (s₁.setTop (mkF m 10 #[.val (.ref x0), .val (.ref x1), .val (.int x2), .val (.int x3), .val (.int x4)] [(.int (1 : Int32)), (.int x3), (.int x4)]))
      refine own_Goes.step (fun tq kq => XS.isub X0.here hx rfl (hb hby d3_10) rfl kq) ?_
      show own_Goes p e below s (own_F3 Z x0 x1 x2 x3 x4 P S j n0 h0) 0 0 (s₁.setTop (mkF m 11 #[.val (.ref x0), .val (.ref x1), .val (.int x2), .val (.int x3), .val (.int x4)] [(.int (x3 - (1 : Int32))), (.int x4)]))
      by_cases hc2 : (x3 - (1 : Int32)) < x4
      · refine own_Goes.step (fun tq kq => XS.icmpYes X0.here hx rfl (pc0 := 11) (pc' := 24) rfl (hb hby d3_11) rfl (XT.ii_gt_t hc2) (by decide) (by decide) kq) ?_
        show own_Goes p e below s (own_F3 Z x0 x1 x2 x3 x4 P S j n0 h0) 0 0 (s₁.setTop (mkF m 24 #[.val (.ref x0), .val (.ref x1), .val (.int x2), .val (.int x3), .val (.int x4)] []))
        refine own_Goes.step (fun tq kq => XT.iconstV X0.here hx rfl (1 : Int32) (hb hby d3_24) (by decide) kq) ?_
        show own_Goes p e below s (own_F3 Z x0 x1 x2 x3 x4 P S j n0 h0) 0 0 (s₁.setTop (mkF m 25 #[.val (.ref x0), .val (.ref x1), .val (.int x2), .val (.int x3), .val (.int x4)] [(.int (1 : Int32))]))
        refine own_Goes.step (fun tq kq => XS.goto X0.here hx rfl (pc0 := 25) (pc' := 29) rfl (hb hby d3_25) (by decide) (by decide) kq) ?_
        show own_Goes p e below s (own_F3 Z x0 x1 x2 x3 x4 P S j n0 h0) 0 0 (s₁.setTop (mkF m 29 #[.val (.ref x0), .val (.ref x1), .val (.int x2), .val (.int x3), .val (.int x4)] [(.int (1 : Int32))]))
        refine own_endN X0 hx Bd.notSynchronized (t := .boolean) Bd.returns (by simp) (hb hby d3_29) ?_ (by decide) (by decide)
        show own_F3 Z x0 x1 x2 x3 x4 P S j n0 h0 _ s₁.heap _
        rw [e0]
        exact ⟨congrArg (fun z => some (Value.int z)) (show (1 : Int32) = own_f3 x2 x3 x4 P S j from by simp only [own_f3, if_pos hc1, if_pos hc2]), rfl, rfl⟩
      · refine own_Goes.step (fun tq kq => XS.icmpNo X0.here hx rfl (hb hby d3_11) rfl (XT.ii_gt_f hc2) kq) ?_
        show own_Goes p e below s (own_F3 Z x0 x1 x2 x3 x4 P S j n0 h0) 0 0 (s₁.setTop (mkF m 14 #[.val (.ref x0), .val (.ref x1), .val (.int x2), .val (.int x3), .val (.int x4)] []))
        refine own_Goes.step (fun tq kq => XS.aloadN X0.here hx rfl (hb hby d3_14) rfl rfl kq) ?_
        show own_Goes p e below s (own_F3 Z x0 x1 x2 x3 x4 P S j n0 h0) 0 0 (s₁.setTop (mkF m 15 #[.val (.ref x0), .val (.ref x1), .val (.int x2), .val (.int x3), .val (.int x4)] [(.ref x0)]))
        refine own_Goes.step (fun tq kq => XS.aloadN X0.here hx rfl (hb hby d3_15) rfl rfl kq) ?_
        show own_Goes p e below s (own_F3 Z x0 x1 x2 x3 x4 P S j n0 h0) 0 0 (s₁.setTop (mkF m 16 #[.val (.ref x0), .val (.ref x1), .val (.int x2), .val (.int x3), .val (.int x4)] [(.ref x1), (.ref x0)]))
        refine own_Goes.step (fun tq kq => XS.iload X0.here hx rfl (hb hby d3_16) rfl kq) ?_
        show own_Goes p e below s (own_F3 Z x0 x1 x2 x3 x4 P S j n0 h0) 0 0 (s₁.setTop (mkF m 18 #[.val (.ref x0), .val (.ref x1), .val (.int x2), .val (.int x3), .val (.int x4)] [(.int x4), (.ref x1), (.ref x0)]))
        obtain ⟨w3, T3, L3, q3, Y3, st3⟩ := own_stat X0 hx hZ e0 hown (hw _ (List.mem_of_getElem? (i := 15) rfl)) (hw _ (List.mem_of_getElem? (i := 16) rfl)) (hw _ (List.mem_of_getElem? (i := 2) rfl)) (hw _ (List.mem_of_getElem? (i := 17) rfl)) (by decide) (own_m4 l Z a0 hw [] x0 x1 x4 P S j n0 h0 A0 A1 hj hj4) (by decide) (W := 0) (by decide) (by decide) (by decide) (g := (mkF m 18 #[.val (.ref x0), .val (.ref x1), .val (.int x2), .val (.int x3), .val (.int x4)] [(.int x4), (.ref x1), (.ref x0)])) rfl (by rw [hml]; rfl) (argsL := [(.ref x0), (.ref x1), (.int x4)]) (rest := []) (lenOf pd_4 rfl) rfl (by show 2 * 0 + _ ≤ _; exact Nat.le_of_eq rfl) (hb hby d3_18)
        obtain ⟨e3, X3⟩ := own_clean q3 Y3 rfl rfl
        obtain ⟨rfl, -, -⟩ := q3
        refine own_Goes.step st3 ?_
        show own_Goes p e below s (own_F3 Z x0 x1 x2 x3 x4 P S j n0 h0) 0 0 (T3.setTop (mkF m 21 #[.val (.ref x0), .val (.ref x1), .val (.int x2), .val (.int x3), .val (.int x4)] [(.int (own_f4 P S j))]))
        by_cases hc4 : (own_f4 P S j) = (0 : Int32)
        · refine own_Goes.step (fun tq kq => XS.ifYes X3.here hx rfl (pc0 := 21) (pc' := 28) rfl (hb hby d3_21) rfl (XT.i0_eq_t hc4) (by decide) (by decide) kq) ?_
          show own_Goes p e below s (own_F3 Z x0 x1 x2 x3 x4 P S j n0 h0) 0 0 (T3.setTop (mkF m 28 #[.val (.ref x0), .val (.ref x1), .val (.int x2), .val (.int x3), .val (.int x4)] []))
          refine own_Goes.step (fun tq kq => XT.iconstV X3.here hx rfl (0 : Int32) (hb hby d3_28) (by decide) kq) ?_
          show own_Goes p e below s (own_F3 Z x0 x1 x2 x3 x4 P S j n0 h0) 0 0 (T3.setTop (mkF m 29 #[.val (.ref x0), .val (.ref x1), .val (.int x2), .val (.int x3), .val (.int x4)] [(.int (0 : Int32))]))
          refine own_endN X3 hx Bd.notSynchronized (t := .boolean) Bd.returns (by simp) (hb hby d3_29) ?_ (by decide) (by decide)
          show own_F3 Z x0 x1 x2 x3 x4 P S j n0 h0 _ T3.heap _
          rw [e3]
          exact ⟨congrArg (fun z => some (Value.int z)) (show (0 : Int32) = own_f3 x2 x3 x4 P S j from by simp only [own_f3, if_pos hc1, if_neg hc2, if_pos hc4]), rfl, rfl⟩
        · refine own_Goes.step (fun tq kq => XS.ifNo X3.here hx rfl (hb hby d3_21) rfl (XT.i0_eq_f hc4) kq) ?_
          show own_Goes p e below s (own_F3 Z x0 x1 x2 x3 x4 P S j n0 h0) 0 0 (T3.setTop (mkF m 24 #[.val (.ref x0), .val (.ref x1), .val (.int x2), .val (.int x3), .val (.int x4)] []))
          refine own_Goes.step (fun tq kq => XT.iconstV X3.here hx rfl (1 : Int32) (hb hby d3_24) (by decide) kq) ?_
          show own_Goes p e below s (own_F3 Z x0 x1 x2 x3 x4 P S j n0 h0) 0 0 (T3.setTop (mkF m 25 #[.val (.ref x0), .val (.ref x1), .val (.int x2), .val (.int x3), .val (.int x4)] [(.int (1 : Int32))]))
          refine own_Goes.step (fun tq kq => XS.goto X3.here hx rfl (pc0 := 25) (pc' := 29) rfl (hb hby d3_25) (by decide) (by decide) kq) ?_
          show own_Goes p e below s (own_F3 Z x0 x1 x2 x3 x4 P S j n0 h0) 0 0 (T3.setTop (mkF m 29 #[.val (.ref x0), .val (.ref x1), .val (.int x2), .val (.int x3), .val (.int x4)] [(.int (1 : Int32))]))
          refine own_endN X3 hx Bd.notSynchronized (t := .boolean) Bd.returns (by simp) (hb hby d3_29) ?_ (by decide) (by decide)
          show own_F3 Z x0 x1 x2 x3 x4 P S j n0 h0 _ T3.heap _
          rw [e3]
          exact ⟨congrArg (fun z => some (Value.int z)) (show (1 : Int32) = own_f3 x2 x3 x4 P S j from by simp only [own_f3, if_pos hc1, if_neg hc2, if_neg hc4]), rfl, rfl⟩
    · refine own_Goes.step (fun tq kq => XS.icmpYes X0.here hx rfl (pc0 := 3) (pc' := 24) rfl (hb hby d3_3) rfl (XT.ii_le_t hc1) (by decide) (by decide) kq) ?_
      show own_Goes p e below s (own_F3 Z x0 x1 x2 x3 x4 P S j n0 h0) 0 0 (s₁.setTop (mkF m 24 #[.val (.ref x0), .val (.ref x1), .val (.int x2), .val (.int x3), .val (.int x4)] []))
      refine own_Goes.step (fun tq kq => XT.iconstV X0.here hx rfl (1 : Int32) (hb hby d3_24) (by decide) kq) ?_
      show own_Goes p e below s (own_F3 Z x0 x1 x2 x3 x4 P S j n0 h0) 0 0 (s₁.setTop (mkF m 25 #[.val (.ref x0), .val (.ref x1), .val (.int x2), .val (.int x3), .val (.int x4)] [(.int (1 : Int32))]))
      refine own_Goes.step (fun tq kq => XS.goto X0.here hx rfl (pc0 := 25) (pc' := 29) rfl (hb hby d3_25) (by decide) (by decide) kq) ?_
      show own_Goes p e below s (own_F3 Z x0 x1 x2 x3 x4 P S j n0 h0) 0 0 (s₁.setTop (mkF m 29 #[.val (.ref x0), .val (.ref x1), .val (.int x2), .val (.int x3), .val (.int x4)] [(.int (1 : Int32))]))
      refine own_endN X0 hx Bd.notSynchronized (t := .boolean) Bd.returns (by simp) (hb hby d3_29) ?_ (by decide) (by decide)
      show own_F3 Z x0 x1 x2 x3 x4 P S j n0 h0 _ s₁.heap _
      rw [e0]
      exact ⟨congrArg (fun z => some (Value.int z)) (show (1 : Int32) = own_f3 x2 x3 x4 P S j from by simp only [own_f3, if_neg hc1]), rfl, rfl⟩
  obtain ⟨t2, o2, q1, q2, q3, q4⟩ := hgo
  exact ⟨t2, o2, castTop (ef_3 m x0 x1 x2 x3 x4) q1, q2, q3, q4⟩
theorem d2_0 : decode prog_13_method_2_code 0 = .ok (.aload_n 0, 1) := by decide +kernel
theorem d2_1 : decode prog_13_method_2_code 1 = .ok (.arraylength, 1) := by decide +kernel
theorem d2_2 : decode prog_13_method_2_code 2 = .ok (.iconst 1, 1) := by decide +kernel
theorem d2_3 : decode prog_13_method_2_code 3 = .ok (.isub, 1) := by decide +kernel
theorem d2_4 : decode prog_13_method_2_code 4 = .ok (.istore_n 1, 1) := by decide +kernel
theorem d2_5 : decode prog_13_method_2_code 5 = .ok (.iload_n 1, 1) := by decide +kernel
theorem d2_6 : decode prog_13_method_2_code 6 = .ok (.ifCond .ge 7, 3) := by decide +kernel
theorem d2_9 : decode prog_13_method_2_code 9 = .ok (.lconst 0, 1) := by decide +kernel
theorem d2_10 : decode prog_13_method_2_code 10 = .ok (.goto 6, 3) := by decide +kernel
theorem d2_13 : decode prog_13_method_2_code 13 = .ok (.aload_n 0, 1) := by decide +kernel
theorem d2_14 : decode prog_13_method_2_code 14 = .ok (.iload_n 1, 1) := by decide +kernel
theorem d2_15 : decode prog_13_method_2_code 15 = .ok (.laload, 1) := by decide +kernel
theorem d2_16 : decode prog_13_method_2_code 16 = .ok (.lstore_n 2, 1) := by decide +kernel
theorem d2_17 : decode prog_13_method_2_code 17 = .ok (.iload_n 1, 1) := by decide +kernel
theorem d2_18 : decode prog_13_method_2_code 18 = .ok (.ifCond .le 43, 3) := by decide +kernel
theorem d2_21 : decode prog_13_method_2_code 21 = .ok (.aload_n 0, 1) := by decide +kernel
theorem d2_22 : decode prog_13_method_2_code 22 = .ok (.iload_n 1, 1) := by decide +kernel
theorem d2_23 : decode prog_13_method_2_code 23 = .ok (.iconst 1, 1) := by decide +kernel
theorem d2_24 : decode prog_13_method_2_code 24 = .ok (.isub, 1) := by decide +kernel
theorem d2_25 : decode prog_13_method_2_code 25 = .ok (.laload, 1) := by decide +kernel
theorem d2_26 : decode prog_13_method_2_code 26 = .ok (.ldc2_w 9, 3) := by decide +kernel
theorem d2_29 : decode prog_13_method_2_code 29 = .ok (.lload_n 2, 1) := by decide +kernel
theorem d2_30 : decode prog_13_method_2_code 30 = .ok (.lmul, 1) := by decide +kernel
theorem d2_31 : decode prog_13_method_2_code 31 = .ok (.lcmp, 1) := by decide +kernel
theorem d2_32 : decode prog_13_method_2_code 32 = .ok (.ifCond .gt 29, 3) := by decide +kernel
theorem d2_35 : decode prog_13_method_2_code 35 = .ok (.aload_n 0, 1) := by decide +kernel
theorem d2_36 : decode prog_13_method_2_code 36 = .ok (.iload_n 1, 1) := by decide +kernel
theorem d2_37 : decode prog_13_method_2_code 37 = .ok (.iconst 1, 1) := by decide +kernel
theorem d2_38 : decode prog_13_method_2_code 38 = .ok (.isub, 1) := by decide +kernel
theorem d2_39 : decode prog_13_method_2_code 39 = .ok (.laload, 1) := by decide +kernel
theorem d2_40 : decode prog_13_method_2_code 40 = .ok (.lload_n 2, 1) := by decide +kernel
theorem d2_41 : decode prog_13_method_2_code 41 = .ok (.ladd, 1) := by decide +kernel
theorem d2_42 : decode prog_13_method_2_code 42 = .ok (.ldc2_w 11, 3) := by decide +kernel
theorem d2_45 : decode prog_13_method_2_code 45 = .ok (.lcmp, 1) := by decide +kernel
theorem d2_46 : decode prog_13_method_2_code 46 = .ok (.ifCond .gt 15, 3) := by decide +kernel
theorem d2_49 : decode prog_13_method_2_code 49 = .ok (.iinc 1 (-1), 3) := by decide +kernel
theorem d2_52 : decode prog_13_method_2_code 52 = .ok (.lload_n 2, 1) := by decide +kernel
theorem d2_53 : decode prog_13_method_2_code 53 = .ok (.aload_n 0, 1) := by decide +kernel
theorem d2_54 : decode prog_13_method_2_code 54 = .ok (.iload_n 1, 1) := by decide +kernel
theorem d2_55 : decode prog_13_method_2_code 55 = .ok (.laload, 1) := by decide +kernel
theorem d2_56 : decode prog_13_method_2_code 56 = .ok (.ladd, 1) := by decide +kernel
theorem d2_57 : decode prog_13_method_2_code 57 = .ok (.lstore_n 2, 1) := by decide +kernel
theorem d2_58 : decode prog_13_method_2_code 58 = .ok (.goto (-41), 3) := by decide +kernel
theorem d2_61 : decode prog_13_method_2_code 61 = .ok (.iload_n 1, 1) := by decide +kernel
theorem d2_62 : decode prog_13_method_2_code 62 = .ok (.ireturn, 1) := by decide +kernel
theorem pn_2 : plainName "com/example/backtrail/backtrail/core/GraphMerge" = true := by first | (simp [plainName, overriddenIn]; done) | decide +kernel
theorem pd_2 : parseMethodDescriptor "([J)I" = some ⟨[(.array .long)], (some .int)⟩ := by decide +kernel
theorem ef_2 (m : MethodId) (x0 : Addr) : entryFrame m #[(.ref x0)] 4 = mkF m 0 #[.val (.ref x0), .unset, .unset, .unset] [] := by first | (simp [entryFrame, mkF, argsToLocals, Value.category]; done) | rfl
def own_F2 (Z : State) (x0 : Addr) (n : Nat) (w : Nat → Int64) (n0 : Nat) (h0 : Heap) (v : Option Value) (h : Heap) (L : List Loc) : Prop := v = some (.int (own_mfr w n)) ∧ L = [] ∧ h = h0
set_option maxRecDepth 65536 in
set_option maxHeartbeats 40000000 in
theorem own_m2 (l : Launch) (Z : State) (a0 : Array Value) (hw : ∀ d ∈ tables_1, d.before a0 Z = true) (ws : List Jvm.Cond) (x0 : Addr) (n : Nat) (w : Nat → Int64) (n0 : Nat) (h0 : Heap)  (A0 : own_Ar Z h0 x0 .long n (fun uu => .long (w uu))) (hn : n < 2147483648) :
    MetFree l (⟨"com/example/backtrail/backtrail/core/GraphMerge", "mergeFrom", "([J)I"⟩ : MethodName) (head1 (Jvm.Cond.code (⟨"com/example/backtrail/backtrail/core/GraphMerge", "mergeFrom", "([J)I"⟩ : MethodName) prog_13_method_2_code 4 (some .int) :: ws) ({ frames := 0, cells := 0, slots := 0, locals := 0 } : Room)) (fun a U => a = #[(.ref x0)] ∧ Z.Warmed39 U.vm ∧ U.heap = h0) (fun _ _ _ _ _ => True) (fun _ U o U' => ∃ v L, o = .returned v ∧ own_F2 Z x0 n w n0 h0 v U'.heap L ∧ FrameEnd U o U' L ({ frames := 0, cells := 0, slots := 0, locals := 0 } : Room).cells ({ frames := 0, cells := 0, slots := 0, locals := 0 } : Room).slots) := by
  refine MetFree.of_bodySF (plainFor_of_name pn_2) hisR ?_
  intro p e s m args below meth c s₁ Bd hml0 hP hK
  obtain ⟨rfl, hZ, hh⟩ := hP
  have hx := Bd.exec
  have hby := Bd.bytes
  have hml : c.maxLocals = 4 := hml0
  have hown : s.vm.findClass "com/example/backtrail/backtrail/core/GraphMerge" = some m.cls := findClass_of_methodNamed Bd.named
  have hnm := (name_of_methodNamed Bd.named Bd.method).1
  have X0 : Stand p l e ({ frames := 0, cells := 0, slots := 0, locals := 0 } : Room) s m #[(.ref x0)] below meth c s₁ [] 0 0 := Stand.of_body Bd
  have e0 : s₁.heap = h0 := by rw [← hh, Bd.state]; rfl
  have N0 := Fr.nil n0
  have K0 : Keep h0 h0 [] := Keep.refl h0 []
  have hgo : own_Goes p e below s (own_F2 Z x0 n w n0 h0) 0 0 (s₁.setTop (mkF m 0 #[.val (.ref x0), .unset, .unset, .unset] [])) := by
    refine own_Goes.step (fun tq kq => XS.aloadN X0.here hx rfl (hb hby d2_0) rfl rfl kq) ?_
    show own_Goes p e below s (own_F2 Z x0 n w n0 h0) 0 0 (s₁.setTop (mkF m 1 #[.val (.ref x0), .unset, .unset, .unset] [(.ref x0)]))
    refine own_Goes.step (own_alen X0 hx hZ e0 A0 (z := (Int32.ofNat n)) rfl (g := (mkF m 1 #[.val (.ref x0), .unset, .unset, .unset] [(.ref x0)])) rfl rfl (hb hby d2_1)) ?_
    show own_Goes p e below s (own_F2 Z x0 n w n0 h0) 0 0 (s₁.setTop (mkF m 2 #[.val (.ref x0), .unset, .unset, .unset] [(.int (Int32.ofNat n))]))
    refine own_Goes.step (fun tq kq => XT.iconstV X0.here hx rfl (1 : Int32) (hb hby d2_2) (by decide) kq) ?_
    show own_Goes p e below s (own_F2 Z x0 n w n0 h0) 0 0 (s₁.setTop (mkF m 3 #[.val (.ref x0), .unset, .unset, .unset] [(.int (1 : Int32)), (.int (Int32.ofNat n))]))
    refine own_Goes.step (fun tq kq => XS.isub X0.here hx rfl (hb hby d2_3) rfl kq) ?_
    show own_Goes p e below s (own_F2 Z x0 n w n0 h0) 0 0 (s₁.setTop (mkF m 4 #[.val (.ref x0), .unset, .unset, .unset] [(.int ((Int32.ofNat n) - (1 : Int32)))]))
    refine own_Goes.step (fun tq kq => XS.istoreN X0.here hx rfl (hb hby d2_4) rfl (l' := #[.val (.ref x0), .val (.int ((Int32.ofNat n) - (1 : Int32))), .unset, .unset]) rfl kq) ?_
    show own_Goes p e below s (own_F2 Z x0 n w n0 h0) 0 0 (s₁.setTop (mkF m 5 #[.val (.ref x0), .val (.int ((Int32.ofNat n) - (1 : Int32))), .unset, .unset] []))
    refine own_Goes.step (fun tq kq => XS.iloadN X0.here hx rfl (hb hby d2_5) rfl kq) ?_
    show own_Goes p e below s (own_F2 Z x0 n w n0 h0) 0 0 (s₁.setTop (mkF m 6 #[.val (.ref x0), .val (.int ((Int32.ofNat n) - (1 : Int32))), .unset, .unset] [(.int ((Int32.ofNat n) - (1 : Int32)))]))
    by_cases hc2 : ((Int32.ofNat n) - (1 : Int32)) < (0 : Int32)
    · refine own_Goes.step (fun tq kq => XS.ifNo X0.here hx rfl (hb hby d2_6) rfl (XT.i0_ge_f hc2) kq) ?_
      show own_Goes p e below s (own_F2 Z x0 n w n0 h0) 0 0 (s₁.setTop (mkF m 9 #[.val (.ref x0), .val (.int ((Int32.ofNat n) - (1 : Int32))), .unset, .unset] []))
      refine own_Goes.step (fun tq kq => XT.lconstV X0.here hx rfl (0 : Int64) (hb hby d2_9) (by decide) kq) ?_
      show own_Goes p e below s (own_F2 Z x0 n w n0 h0) 0 0 (s₁.setTop (mkF m 10 #[.val (.ref x0), .val (.int ((Int32.ofNat n) - (1 : Int32))), .unset, .unset] [(.long (0 : Int64))]))
      refine own_Goes.step (fun tq kq => XS.goto X0.here hx rfl (pc0 := 10) (pc' := 16) rfl (hb hby d2_10) (by decide) (by decide) kq) ?_
      show own_Goes p e below s (own_F2 Z x0 n w n0 h0) 0 0 (s₁.setTop (mkF m 16 #[.val (.ref x0), .val (.int ((Int32.ofNat n) - (1 : Int32))), .unset, .unset] [(.long (0 : Int64))]))
      refine own_Goes.step (fun tq kq => XT.lstoreN X0.here hx rfl (hb hby d2_16) rfl (l' := #[.val (.ref x0), .val (.int ((Int32.ofNat n) - (1 : Int32))), .val (.long (0 : Int64)), .second]) rfl kq) ?_
      show own_Goes p e below s (own_F2 Z x0 n w n0 h0) 0 0 (s₁.setTop (mkF m 17 #[.val (.ref x0), .val (.int ((Int32.ofNat n) - (1 : Int32))), .val (.long (0 : Int64)), .second] []))
      have hz : n = 0 := by have q := hc2; rw [own_lt32, own_last0 hn, Int32.toInt_zero] at q; omega
      refine own_Goes.step (fun tq kq => XS.iloadN X0.here hx rfl (hb hby d2_17) rfl kq) ?_
      show own_Goes p e below s (own_F2 Z x0 n w n0 h0) 0 0 (s₁.setTop (mkF m 18 #[.val (.ref x0), .val (.int ((Int32.ofNat n) - (1 : Int32))), .val (.long (0 : Int64)), .second] [(.int ((Int32.ofNat n) - (1 : Int32)))]))
      refine own_Goes.step (fun tq kq => XS.ifYes X0.here hx rfl (pc0 := 18) (pc' := 61) rfl (hb hby d2_18) rfl (XT.i0_le_t (own_neg0 hn hz)) (by decide) (by decide) kq) ?_
      show own_Goes p e below s (own_F2 Z x0 n w n0 h0) 0 0 (s₁.setTop (mkF m 61 #[.val (.ref x0), .val (.int ((Int32.ofNat n) - (1 : Int32))), .val (.long (0 : Int64)), .second] []))
      refine own_Goes.step (fun tq kq => XS.iloadN X0.here hx rfl (hb hby d2_61) rfl kq) ?_
      show own_Goes p e below s (own_F2 Z x0 n w n0 h0) 0 0 (s₁.setTop (mkF m 62 #[.val (.ref x0), .val (.int ((Int32.ofNat n) - (1 : Int32))), .val (.long (0 : Int64)), .second] [(.int ((Int32.ofNat n) - (1 : Int32)))]))
      refine own_endI X0 hx Bd.notSynchronized Bd.returns (hb hby d2_62) ?_ (by decide) (by decide)
      show own_F2 Z x0 n w n0 h0 _ s₁.heap _
      rw [e0]
      subst hz
      exact ⟨rfl, rfl, rfl⟩
    · refine own_Goes.step (fun tq kq => XS.ifYes X0.here hx rfl (pc0 := 6) (pc' := 13) rfl (hb hby d2_6) rfl (XT.i0_ge_t hc2) (by decide) (by decide) kq) ?_
      show own_Goes p e below s (own_F2 Z x0 n w n0 h0) 0 0 (s₁.setTop (mkF m 13 #[.val (.ref x0), .val (.int ((Int32.ofNat n) - (1 : Int32))), .unset, .unset] []))
      refine own_Goes.step (fun tq kq => XS.aloadN X0.here hx rfl (hb hby d2_13) rfl rfl kq) ?_
      show own_Goes p e below s (own_F2 Z x0 n w n0 h0) 0 0 (s₁.setTop (mkF m 14 #[.val (.ref x0), .val (.int ((Int32.ofNat n) - (1 : Int32))), .unset, .unset] [(.ref x0)]))
      refine own_Goes.step (fun tq kq => XS.iloadN X0.here hx rfl (hb hby d2_14) rfl kq) ?_
      show own_Goes p e below s (own_F2 Z x0 n w n0 h0) 0 0 (s₁.setTop (mkF m 15 #[.val (.ref x0), .val (.int ((Int32.ofNat n) - (1 : Int32))), .unset, .unset] [(.int ((Int32.ofNat n) - (1 : Int32))), (.ref x0)]))
      refine own_Goes.step (own_lald X0 hx hZ e0 A0 (i := n - 1) (own_first hn hc2) (Nat.sub_lt (own_pos hn hc2) (by decide)) (v := (.long (w (n - 1)))) rfl (g := (mkF m 15 #[.val (.ref x0), .val (.int ((Int32.ofNat n) - (1 : Int32))), .unset, .unset] [(.int ((Int32.ofNat n) - (1 : Int32))), (.ref x0)])) rfl rfl (hb hby d2_15)) ?_
      show own_Goes p e below s (own_F2 Z x0 n w n0 h0) 0 0 (s₁.setTop (mkF m 16 #[.val (.ref x0), .val (.int ((Int32.ofNat n) - (1 : Int32))), .unset, .unset] [(.long (w (n - 1)))]))
      refine own_Goes.step (fun tq kq => XT.lstoreN X0.here hx rfl (hb hby d2_16) rfl (l' := #[.val (.ref x0), .val (.int ((Int32.ofNat n) - (1 : Int32))), .val (.long (w (n - 1))), .second]) rfl kq) ?_
      show own_Goes p e below s (own_F2 Z x0 n w n0 h0) 0 0 (s₁.setTop (mkF m 17 #[.val (.ref x0), .val (.int ((Int32.ofNat n) - (1 : Int32))), .val (.long (w (n - 1))), .second] []))
      have loop : ∀ (k : Nat) (i : Int32) (mg : Int64), i.toInt = (k : Nat) → k < n → own_mfr w n = own_mf w k mg → own_Goes p e below s (own_F2 Z x0 n w n0 h0) 0 0 (s₁.setTop (mkF m 17 #[.val (.ref x0), .val (.int i), .val (.long mg), .second] [])) := by
        intro k
        induction k with
        | zero =>
          intro i mg hi hk he
          have hle : ¬ (0 : Int32) < i := by rw [own_lt32, Int32.toInt_zero]; omega
          refine own_Goes.step (fun tq kq => XS.iloadN X0.here hx rfl (hb hby d2_17) rfl kq) ?_
          show own_Goes p e below s (own_F2 Z x0 n w n0 h0) 0 0 (s₁.setTop (mkF m 18 #[.val (.ref x0), .val (.int i), .val (.long mg), .second] [(.int i)]))
          refine own_Goes.step (fun tq kq => XS.ifYes X0.here hx rfl (pc0 := 18) (pc' := 61) rfl (hb hby d2_18) rfl (XT.i0_le_t (hle)) (by decide) (by decide) kq) ?_
          show own_Goes p e below s (own_F2 Z x0 n w n0 h0) 0 0 (s₁.setTop (mkF m 61 #[.val (.ref x0), .val (.int i), .val (.long mg), .second] []))
          refine own_Goes.step (fun tq kq => XS.iloadN X0.here hx rfl (hb hby d2_61) rfl kq) ?_
          show own_Goes p e below s (own_F2 Z x0 n w n0 h0) 0 0 (s₁.setTop (mkF m 62 #[.val (.ref x0), .val (.int i), .val (.long mg), .second] [(.int i)]))
          refine own_endI X0 hx Bd.notSynchronized Bd.returns (hb hby d2_62) ?_ (by decide) (by decide)
          show own_F2 Z x0 n w n0 h0 _ s₁.heap _
          rw [e0]
          exact ⟨congrArg (fun z => some (Value.int z)) (by rw [he]; exact (own_self hi).symm), rfl, rfl⟩
        | succ k ih =>
          intro i mg hi hk he
          have hlt : (0 : Int32) < i := by rw [own_lt32, Int32.toInt_zero]; omega
          have hkn : k < n := Nat.lt_of_succ_lt hk
          refine own_Goes.step (fun tq kq => XS.iloadN X0.here hx rfl (hb hby d2_17) rfl kq) ?_
          show own_Goes p e below s (own_F2 Z x0 n w n0 h0) 0 0 (s₁.setTop (mkF m 18 #[.val (.ref x0), .val (.int i), .val (.long mg), .second] [(.int i)]))
          refine own_Goes.step (fun tq kq => XS.ifNo X0.here hx rfl (hb hby d2_18) rfl (XT.i0_le_f (hlt)) kq) ?_
          show own_Goes p e below s (own_F2 Z x0 n w n0 h0) 0 0 (s₁.setTop (mkF m 21 #[.val (.ref x0), .val (.int i), .val (.long mg), .second] []))
          refine own_Goes.step (fun tq kq => XS.aloadN X0.here hx rfl (hb hby d2_21) rfl rfl kq) ?_
          show own_Goes p e below s (own_F2 Z x0 n w n0 h0) 0 0 (s₁.setTop (mkF m 22 #[.val (.ref x0), .val (.int i), .val (.long mg), .second] [(.ref x0)]))
          refine own_Goes.step (fun tq kq => XS.iloadN X0.here hx rfl (hb hby d2_22) rfl kq) ?_
          show own_Goes p e below s (own_F2 Z x0 n w n0 h0) 0 0 (s₁.setTop (mkF m 23 #[.val (.ref x0), .val (.int i), .val (.long mg), .second] [(.int i), (.ref x0)]))
          refine own_Goes.step (fun tq kq => XT.iconstV X0.here hx rfl (1 : Int32) (hb hby d2_23) (by decide) kq) ?_
          show own_Goes p e below s (own_F2 Z x0 n w n0 h0) 0 0 (s₁.setTop (mkF m 24 #[.val (.ref x0), .val (.int i), .val (.long mg), .second] [(.int (1 : Int32)), (.int i), (.ref x0)]))
          refine own_Goes.step (fun tq kq => XS.isub X0.here hx rfl (hb hby d2_24) rfl kq) ?_
          show own_Goes p e below s (own_F2 Z x0 n w n0 h0) 0 0 (s₁.setTop (mkF m 25 #[.val (.ref x0), .val (.int i), .val (.long mg), .second] [(.int (i - (1 : Int32))), (.ref x0)]))
          refine own_Goes.step (own_lald X0 hx hZ e0 A0 (i := k) (own_pred hi) hkn (v := (.long (w k))) rfl (g := (mkF m 25 #[.val (.ref x0), .val (.int i), .val (.long mg), .second] [(.int (i - (1 : Int32))), (.ref x0)])) rfl rfl (hb hby d2_25)) ?_
          show own_Goes p e below s (own_F2 Z x0 n w n0 h0) 0 0 (s₁.setTop (mkF m 26 #[.val (.ref x0), .val (.int i), .val (.long mg), .second] [(.long (w k))]))
          refine own_Goes.step (fun tq kq => X0.ldc2J hx hown (mvT hZ (hw _ (List.mem_of_getElem? (i := 10) rfl))) rfl (hb hby d2_26) kq) ?_
          show own_Goes p e below s (own_F2 Z x0 n w n0 h0) 0 0 (s₁.setTop (mkF m 29 #[.val (.ref x0), .val (.int i), .val (.long mg), .second] [(.long (2 : Int64)), (.long (w k))]))
          refine own_Goes.step (fun tq kq => XT.lloadN X0.here hx rfl (hb hby d2_29) rfl kq) ?_
          show own_Goes p e below s (own_F2 Z x0 n w n0 h0) 0 0 (s₁.setTop (mkF m 30 #[.val (.ref x0), .val (.int i), .val (.long mg), .second] [(.long mg), (.long (2 : Int64)), (.long (w k))]))
          refine own_Goes.step (fun tq kq => XT.lmul X0.here hx rfl (hb hby d2_30) rfl kq) ?_
          show own_Goes p e below s (own_F2 Z x0 n w n0 h0) 0 0 (s₁.setTop (mkF m 31 #[.val (.ref x0), .val (.int i), .val (.long mg), .second] [(.long ((2 : Int64) * mg)), (.long (w k))]))
          refine own_Goes.step (fun tq kq => XT.lcmp X0.here hx rfl (hb hby d2_31) rfl kq) ?_
          show own_Goes p e below s (own_F2 Z x0 n w n0 h0) 0 0 (s₁.setTop (mkF m 32 #[.val (.ref x0), .val (.int i), .val (.long mg), .second] [(.int (XT.cmpL (w k) ((2 : Int64) * mg)))]))
          by_cases hc5 : ((2 : Int64) * mg) < (w k)
          · refine own_Goes.step (fun tq kq => XS.ifYes X0.here hx rfl (pc0 := 32) (pc' := 61) rfl (hb hby d2_32) rfl (XT.ll_gt_t hc5) (by decide) (by decide) kq) ?_
            show own_Goes p e below s (own_F2 Z x0 n w n0 h0) 0 0 (s₁.setTop (mkF m 61 #[.val (.ref x0), .val (.int i), .val (.long mg), .second] []))
            refine own_Goes.step (fun tq kq => XS.iloadN X0.here hx rfl (hb hby d2_61) rfl kq) ?_
            show own_Goes p e below s (own_F2 Z x0 n w n0 h0) 0 0 (s₁.setTop (mkF m 62 #[.val (.ref x0), .val (.int i), .val (.long mg), .second] [(.int i)]))
            refine own_endI X0 hx Bd.notSynchronized Bd.returns (hb hby d2_62) ?_ (by decide) (by decide)
            show own_F2 Z x0 n w n0 h0 _ s₁.heap _
            rw [e0]
            exact ⟨congrArg (fun z => some (Value.int z)) (by rw [he, own_mf_succ]; simp only [if_pos hc5]; exact (own_self hi).symm), rfl, rfl⟩
          · refine own_Goes.step (fun tq kq => XS.ifNo X0.here hx rfl (hb hby d2_32) rfl (XT.ll_gt_f hc5) kq) ?_
            show own_Goes p e below s (own_F2 Z x0 n w n0 h0) 0 0 (s₁.setTop (mkF m 35 #[.val (.ref x0), .val (.int i), .val (.long mg), .second] []))
            refine own_Goes.step (fun tq kq => XS.aloadN X0.here hx rfl (hb hby d2_35) rfl rfl kq) ?_
            show own_Goes p e below s (own_F2 Z x0 n w n0 h0) 0 0 (s₁.setTop (mkF m 36 #[.val (.ref x0), .val (.int i), .val (.long mg), .second] [(.ref x0)]))
            refine own_Goes.step (fun tq kq => XS.iloadN X0.here hx rfl (hb hby d2_36) rfl kq) ?_
            show own_Goes p e below s (own_F2 Z x0 n w n0 h0) 0 0 (s₁.setTop (mkF m 37 #[.val (.ref x0), .val (.int i), .val (.long mg), .second] [(.int i), (.ref x0)]))
            refine own_Goes.step (fun tq kq => XT.iconstV X0.here hx rfl (1 : Int32) (hb hby d2_37) (by decide) kq) ?_
            show own_Goes p e below s (own_F2 Z x0 n w n0 h0) 0 0 (s₁.setTop (mkF m 38 #[.val (.ref x0), .val (.int i), .val (.long mg), .second] [(.int (1 : Int32)), (.int i), (.ref x0)]))
            refine own_Goes.step (fun tq kq => XS.isub X0.here hx rfl (hb hby d2_38) rfl kq) ?_
            show own_Goes p e below s (own_F2 Z x0 n w n0 h0) 0 0 (s₁.setTop (mkF m 39 #[.val (.ref x0), .val (.int i), .val (.long mg), .second] [(.int (i - (1 : Int32))), (.ref x0)]))
            refine own_Goes.step (own_lald X0 hx hZ e0 A0 (i := k) (own_pred hi) hkn (v := (.long (w k))) rfl (g := (mkF m 39 #[.val (.ref x0), .val (.int i), .val (.long mg), .second] [(.int (i - (1 : Int32))), (.ref x0)])) rfl rfl (hb hby d2_39)) ?_
            show own_Goes p e below s (own_F2 Z x0 n w n0 h0) 0 0 (s₁.setTop (mkF m 40 #[.val (.ref x0), .val (.int i), .val (.long mg), .second] [(.long (w k))]))
            refine own_Goes.step (fun tq kq => XT.lloadN X0.here hx rfl (hb hby d2_40) rfl kq) ?_
            show own_Goes p e below s (own_F2 Z x0 n w n0 h0) 0 0 (s₁.setTop (mkF m 41 #[.val (.ref x0), .val (.int i), .val (.long mg), .second] [(.long mg), (.long (w k))]))
            refine own_Goes.step (fun tq kq => XT.ladd X0.here hx rfl (hb hby d2_41) rfl kq) ?_
            show own_Goes p e below s (own_F2 Z x0 n w n0 h0) 0 0 (s₁.setTop (mkF m 42 #[.val (.ref x0), .val (.int i), .val (.long mg), .second] [(.long ((w k) + mg))]))
            refine own_Goes.step (fun tq kq => X0.ldc2J hx hown (mvT hZ (hw _ (List.mem_of_getElem? (i := 11) rfl))) rfl (hb hby d2_42) kq) ?_
            show own_Goes p e below s (own_F2 Z x0 n w n0 h0) 0 0 (s₁.setTop (mkF m 45 #[.val (.ref x0), .val (.int i), .val (.long mg), .second] [(.long (2097152 : Int64)), (.long ((w k) + mg))]))
            refine own_Goes.step (fun tq kq => XT.lcmp X0.here hx rfl (hb hby d2_45) rfl kq) ?_
            show own_Goes p e below s (own_F2 Z x0 n w n0 h0) 0 0 (s₁.setTop (mkF m 46 #[.val (.ref x0), .val (.int i), .val (.long mg), .second] [(.int (XT.cmpL ((w k) + mg) (2097152 : Int64)))]))
            by_cases hc7 : (2097152 : Int64) < ((w k) + mg)
            · refine own_Goes.step (fun tq kq => XS.ifYes X0.here hx rfl (pc0 := 46) (pc' := 61) rfl (hb hby d2_46) rfl (XT.ll_gt_t hc7) (by decide) (by decide) kq) ?_
              show own_Goes p e below s (own_F2 Z x0 n w n0 h0) 0 0 (s₁.setTop (mkF m 61 #[.val (.ref x0), .val (.int i), .val (.long mg), .second] []))
              refine own_Goes.step (fun tq kq => XS.iloadN X0.here hx rfl (hb hby d2_61) rfl kq) ?_
              show own_Goes p e below s (own_F2 Z x0 n w n0 h0) 0 0 (s₁.setTop (mkF m 62 #[.val (.ref x0), .val (.int i), .val (.long mg), .second] [(.int i)]))
              refine own_endI X0 hx Bd.notSynchronized Bd.returns (hb hby d2_62) ?_ (by decide) (by decide)
              show own_F2 Z x0 n w n0 h0 _ s₁.heap _
              rw [e0]
              exact ⟨congrArg (fun z => some (Value.int z)) (by rw [he, own_mf_succ]; simp only [if_neg hc5, if_pos hc7]; exact (own_self hi).symm), rfl, rfl⟩
            · refine own_Goes.step (fun tq kq => XS.ifNo X0.here hx rfl (hb hby d2_46) rfl (XT.ll_gt_f hc7) kq) ?_
              show own_Goes p e below s (own_F2 Z x0 n w n0 h0) 0 0 (s₁.setTop (mkF m 49 #[.val (.ref x0), .val (.int i), .val (.long mg), .second] []))
              refine own_Goes.step (fun tq kq => XT.iincV X0.here hx rfl (-1 : Int32) (hb hby d2_49) (by decide) rfl (l' := #[.val (.ref x0), .val (.int (i + (-1 : Int32))), .val (.long mg), .second]) rfl kq) ?_
              show own_Goes p e below s (own_F2 Z x0 n w n0 h0) 0 0 (s₁.setTop (mkF m 52 #[.val (.ref x0), .val (.int (i + (-1 : Int32))), .val (.long mg), .second] []))
              refine own_Goes.step (fun tq kq => XT.lloadN X0.here hx rfl (hb hby d2_52) rfl kq) ?_
              show own_Goes p e below s (own_F2 Z x0 n w n0 h0) 0 0 (s₁.setTop (mkF m 53 #[.val (.ref x0), .val (.int (i + (-1 : Int32))), .val (.long mg), .second] [(.long mg)]))
              refine own_Goes.step (fun tq kq => XS.aloadN X0.here hx rfl (hb hby d2_53) rfl rfl kq) ?_
              show own_Goes p e below s (own_F2 Z x0 n w n0 h0) 0 0 (s₁.setTop (mkF m 54 #[.val (.ref x0), .val (.int (i + (-1 : Int32))), .val (.long mg), .second] [(.ref x0), (.long mg)]))
              refine own_Goes.step (fun tq kq => XS.iloadN X0.here hx rfl (hb hby d2_54) rfl kq) ?_
              show own_Goes p e below s (own_F2 Z x0 n w n0 h0) 0 0 (s₁.setTop (mkF m 55 #[.val (.ref x0), .val (.int (i + (-1 : Int32))), .val (.long mg), .second] [(.int (i + (-1 : Int32))), (.ref x0), (.long mg)]))
              refine own_Goes.step (own_lald X0 hx hZ e0 A0 (i := k) (own_dec hi) hkn (v := (.long (w k))) rfl (g := (mkF m 55 #[.val (.ref x0), .val (.int (i + (-1 : Int32))), .val (.long mg), .second] [(.int (i + (-1 : Int32))), (.ref x0), (.long mg)])) rfl rfl (hb hby d2_55)) ?_
              show own_Goes p e below s (own_F2 Z x0 n w n0 h0) 0 0 (s₁.setTop (mkF m 56 #[.val (.ref x0), .val (.int (i + (-1 : Int32))), .val (.long mg), .second] [(.long (w k)), (.long mg)]))
              refine own_Goes.step (fun tq kq => XT.ladd X0.here hx rfl (hb hby d2_56) rfl kq) ?_
              show own_Goes p e below s (own_F2 Z x0 n w n0 h0) 0 0 (s₁.setTop (mkF m 57 #[.val (.ref x0), .val (.int (i + (-1 : Int32))), .val (.long mg), .second] [(.long (mg + (w k)))]))
              refine own_Goes.step (fun tq kq => XT.lstoreN X0.here hx rfl (hb hby d2_57) rfl (l' := #[.val (.ref x0), .val (.int (i + (-1 : Int32))), .val (.long (mg + (w k))), .second]) rfl kq) ?_
              show own_Goes p e below s (own_F2 Z x0 n w n0 h0) 0 0 (s₁.setTop (mkF m 58 #[.val (.ref x0), .val (.int (i + (-1 : Int32))), .val (.long (mg + (w k))), .second] []))
              refine own_Goes.step (fun tq kq => XS.goto X0.here hx rfl (pc0 := 58) (pc' := 17) rfl (hb hby d2_58) (by decide) (by decide) kq) ?_
              show own_Goes p e below s (own_F2 Z x0 n w n0 h0) 0 0 (s₁.setTop (mkF m 17 #[.val (.ref x0), .val (.int (i + (-1 : Int32))), .val (.long (mg + (w k))), .second] []))
              exact ih _ _ (own_dec hi) hkn (by rw [he, own_mf_succ]; simp only [if_neg hc5, if_neg hc7])
      exact loop (n - 1) _ _ (own_first hn hc2) (Nat.sub_lt (own_pos hn hc2) (by decide)) (own_mfr0 w (own_pos hn hc2))
  obtain ⟨t2, o2, q1, q2, q3, q4⟩ := hgo
  exact ⟨t2, o2, castTop (ef_2 m x0) q1, q2, q3, q4⟩
theorem d1_0 : decode method_3_code 0 = .ok (.iload_n 0, 1) := by decide +kernel
theorem d1_1 : decode method_3_code 1 = .ok (.ifCond .ne 7, 3) := by decide +kernel
theorem d1_4 : decode method_3_code 4 = .ok (.iconst 0, 1) := by decide +kernel
theorem d1_5 : decode method_3_code 5 = .ok (.newarray .long, 2) := by decide +kernel
theorem d1_7 : decode method_3_code 7 = .ok (.areturn, 1) := by decide +kernel
theorem d1_8 : decode method_3_code 8 = .ok (.iload_n 0, 1) := by decide +kernel
theorem d1_9 : decode method_3_code 9 = .ok (.iconst 1, 1) := by decide +kernel
theorem d1_10 : decode method_3_code 10 = .ok (.if_icmp .ne 11, 3) := by decide +kernel
theorem d1_13 : decode method_3_code 13 = .ok (.iconst 1, 1) := by decide +kernel
theorem d1_14 : decode method_3_code 14 = .ok (.newarray .long, 2) := by decide +kernel
theorem d1_16 : decode method_3_code 16 = .ok (.dup, 1) := by decide +kernel
theorem d1_17 : decode method_3_code 17 = .ok (.iconst 0, 1) := by decide +kernel
theorem d1_18 : decode method_3_code 18 = .ok (.lload_n 1, 1) := by decide +kernel
theorem d1_19 : decode method_3_code 19 = .ok (.lastore, 1) := by decide +kernel
theorem d1_20 : decode method_3_code 20 = .ok (.areturn, 1) := by decide +kernel
theorem d1_21 : decode method_3_code 21 = .ok (.iload_n 0, 1) := by decide +kernel
theorem d1_22 : decode method_3_code 22 = .ok (.iconst 2, 1) := by decide +kernel
theorem d1_23 : decode method_3_code 23 = .ok (.if_icmp .ne 15, 3) := by decide +kernel
theorem d1_26 : decode method_3_code 26 = .ok (.iconst 2, 1) := by decide +kernel
theorem d1_27 : decode method_3_code 27 = .ok (.newarray .long, 2) := by decide +kernel
theorem d1_29 : decode method_3_code 29 = .ok (.dup, 1) := by decide +kernel
theorem d1_30 : decode method_3_code 30 = .ok (.iconst 0, 1) := by decide +kernel
theorem d1_31 : decode method_3_code 31 = .ok (.lload_n 1, 1) := by decide +kernel
theorem d1_32 : decode method_3_code 32 = .ok (.lastore, 1) := by decide +kernel
theorem d1_33 : decode method_3_code 33 = .ok (.dup, 1) := by decide +kernel
theorem d1_34 : decode method_3_code 34 = .ok (.iconst 1, 1) := by decide +kernel
theorem d1_35 : decode method_3_code 35 = .ok (.lload_n 3, 1) := by decide +kernel
theorem d1_36 : decode method_3_code 36 = .ok (.lastore, 1) := by decide +kernel
theorem d1_37 : decode method_3_code 37 = .ok (.areturn, 1) := by decide +kernel
theorem d1_38 : decode method_3_code 38 = .ok (.iload_n 0, 1) := by decide +kernel
theorem d1_39 : decode method_3_code 39 = .ok (.iconst 3, 1) := by decide +kernel
theorem d1_40 : decode method_3_code 40 = .ok (.if_icmp .ne 20, 3) := by decide +kernel
theorem d1_43 : decode method_3_code 43 = .ok (.iconst 3, 1) := by decide +kernel
theorem d1_44 : decode method_3_code 44 = .ok (.newarray .long, 2) := by decide +kernel
theorem d1_46 : decode method_3_code 46 = .ok (.dup, 1) := by decide +kernel
theorem d1_47 : decode method_3_code 47 = .ok (.iconst 0, 1) := by decide +kernel
theorem d1_48 : decode method_3_code 48 = .ok (.lload_n 1, 1) := by decide +kernel
theorem d1_49 : decode method_3_code 49 = .ok (.lastore, 1) := by decide +kernel
theorem d1_50 : decode method_3_code 50 = .ok (.dup, 1) := by decide +kernel
theorem d1_51 : decode method_3_code 51 = .ok (.iconst 1, 1) := by decide +kernel
theorem d1_52 : decode method_3_code 52 = .ok (.lload_n 3, 1) := by decide +kernel
theorem d1_53 : decode method_3_code 53 = .ok (.lastore, 1) := by decide +kernel
theorem d1_54 : decode method_3_code 54 = .ok (.dup, 1) := by decide +kernel
theorem d1_55 : decode method_3_code 55 = .ok (.iconst 2, 1) := by decide +kernel
theorem d1_56 : decode method_3_code 56 = .ok (.lload 5, 2) := by decide +kernel
theorem d1_58 : decode method_3_code 58 = .ok (.lastore, 1) := by decide +kernel
theorem d1_59 : decode method_3_code 59 = .ok (.areturn, 1) := by decide +kernel
theorem d1_60 : decode method_3_code 60 = .ok (.iload_n 0, 1) := by decide +kernel
theorem d1_61 : decode method_3_code 61 = .ok (.iconst 4, 1) := by decide +kernel
theorem d1_62 : decode method_3_code 62 = .ok (.if_icmp .ne 25, 3) := by decide +kernel
theorem d1_65 : decode method_3_code 65 = .ok (.iconst 4, 1) := by decide +kernel
theorem d1_66 : decode method_3_code 66 = .ok (.newarray .long, 2) := by decide +kernel
theorem d1_68 : decode method_3_code 68 = .ok (.dup, 1) := by decide +kernel
theorem d1_69 : decode method_3_code 69 = .ok (.iconst 0, 1) := by decide +kernel
theorem d1_70 : decode method_3_code 70 = .ok (.lload_n 1, 1) := by decide +kernel
theorem d1_71 : decode method_3_code 71 = .ok (.lastore, 1) := by decide +kernel
theorem d1_72 : decode method_3_code 72 = .ok (.dup, 1) := by decide +kernel
theorem d1_73 : decode method_3_code 73 = .ok (.iconst 1, 1) := by decide +kernel
theorem d1_74 : decode method_3_code 74 = .ok (.lload_n 3, 1) := by decide +kernel
theorem d1_75 : decode method_3_code 75 = .ok (.lastore, 1) := by decide +kernel
theorem d1_76 : decode method_3_code 76 = .ok (.dup, 1) := by decide +kernel
theorem d1_77 : decode method_3_code 77 = .ok (.iconst 2, 1) := by decide +kernel
theorem d1_78 : decode method_3_code 78 = .ok (.lload 5, 2) := by decide +kernel
theorem d1_80 : decode method_3_code 80 = .ok (.lastore, 1) := by decide +kernel
theorem d1_81 : decode method_3_code 81 = .ok (.dup, 1) := by decide +kernel
theorem d1_82 : decode method_3_code 82 = .ok (.iconst 3, 1) := by decide +kernel
theorem d1_83 : decode method_3_code 83 = .ok (.lload 7, 2) := by decide +kernel
theorem d1_85 : decode method_3_code 85 = .ok (.lastore, 1) := by decide +kernel
theorem d1_86 : decode method_3_code 86 = .ok (.areturn, 1) := by decide +kernel
theorem d1_87 : decode method_3_code 87 = .ok (.iconst 5, 1) := by decide +kernel
theorem d1_88 : decode method_3_code 88 = .ok (.newarray .long, 2) := by decide +kernel
theorem d1_90 : decode method_3_code 90 = .ok (.dup, 1) := by decide +kernel
theorem d1_91 : decode method_3_code 91 = .ok (.iconst 0, 1) := by decide +kernel
theorem d1_92 : decode method_3_code 92 = .ok (.lload_n 1, 1) := by decide +kernel
theorem d1_93 : decode method_3_code 93 = .ok (.lastore, 1) := by decide +kernel
theorem d1_94 : decode method_3_code 94 = .ok (.dup, 1) := by decide +kernel
theorem d1_95 : decode method_3_code 95 = .ok (.iconst 1, 1) := by decide +kernel
theorem d1_96 : decode method_3_code 96 = .ok (.lload_n 3, 1) := by decide +kernel
theorem d1_97 : decode method_3_code 97 = .ok (.lastore, 1) := by decide +kernel
theorem d1_98 : decode method_3_code 98 = .ok (.dup, 1) := by decide +kernel
theorem d1_99 : decode method_3_code 99 = .ok (.iconst 2, 1) := by decide +kernel
theorem d1_100 : decode method_3_code 100 = .ok (.lload 5, 2) := by decide +kernel
theorem d1_102 : decode method_3_code 102 = .ok (.lastore, 1) := by decide +kernel
theorem d1_103 : decode method_3_code 103 = .ok (.dup, 1) := by decide +kernel
theorem d1_104 : decode method_3_code 104 = .ok (.iconst 3, 1) := by decide +kernel
theorem d1_105 : decode method_3_code 105 = .ok (.lload 7, 2) := by decide +kernel
theorem d1_107 : decode method_3_code 107 = .ok (.lastore, 1) := by decide +kernel
theorem d1_108 : decode method_3_code 108 = .ok (.dup, 1) := by decide +kernel
theorem d1_109 : decode method_3_code 109 = .ok (.iconst 4, 1) := by decide +kernel
theorem d1_110 : decode method_3_code 110 = .ok (.lload 9, 2) := by decide +kernel
theorem d1_112 : decode method_3_code 112 = .ok (.lastore, 1) := by decide +kernel
theorem d1_113 : decode method_3_code 113 = .ok (.areturn, 1) := by decide +kernel
theorem pn_1 : plainName "com/example/backtrail/backtrail/core/GraphMergeMergeFromPinLaw" = true := by first | (simp [plainName, overriddenIn]; done) | decide +kernel
theorem pd_1 : parseMethodDescriptor "(IJJJJJ)[J" = some ⟨[.int, .long, .long, .long, .long, .long], (some (.array .long))⟩ := by decide +kernel
theorem ef_1 (m : MethodId) (x0 : Int32) (x1 : Int64) (x2 : Int64) (x3 : Int64) (x4 : Int64) (x5 : Int64) : entryFrame m #[(.int x0), (.long x1), (.long x2), (.long x3), (.long x4), (.long x5)] 11 = mkF m 0 #[.val (.int x0), .val (.long x1), .second, .val (.long x2), .second, .val (.long x3), .second, .val (.long x4), .second, .val (.long x5), .second] [] := by first | (simp [entryFrame, mkF, argsToLocals, Value.category]; done) | rfl
def own_F1 (Z : State) (x0 : Int32) (x1 : Int64) (x2 : Int64) (x3 : Int64) (x4 : Int64) (x5 : Int64)  (n0 : Nat) (h0 : Heap) (v : Option Value) (h : Heap) (L : List Loc) : Prop := ∃ a, v = some (.ref a) ∧ Fr n0 L ∧ n0 ≤ a ∧ h0.size ≤ a ∧ Keep h0 h [] ∧ own_Ar Z h a .long x0.toInt.toNat (fun uu => .long (own_w x1 x2 x3 x4 x5 uu))
set_option maxRecDepth 65536 in
set_option maxHeartbeats 40000000 in
theorem own_m1 (l : Launch) (Z : State) (a0 : Array Value) (hw : ∀ d ∈ tables_1, d.before a0 Z = true) (ws : List Jvm.Cond) (x0 : Int32) (x1 : Int64) (x2 : Int64) (x3 : Int64) (x4 : Int64) (x5 : Int64)  (n0 : Nat) (h0 : Heap)  (Z0 : n0 ≤ h0.size) (hx0 : 0 ≤ x0.toInt ∧ x0.toInt ≤ 5) :
    MetFree l (⟨"com/example/backtrail/backtrail/core/GraphMergeMergeFromPinLaw", "build", "(IJJJJJ)[J"⟩ : MethodName) (head1 (Jvm.Cond.code (⟨"com/example/backtrail/backtrail/core/GraphMergeMergeFromPinLaw", "build", "(IJJJJJ)[J"⟩ : MethodName) method_3_code 11 (some (.array .long)) :: ws) ({ frames := 0, cells := 1, slots := 5, locals := 0 } : Room)) (fun a U => a = #[(.int x0), (.long x1), (.long x2), (.long x3), (.long x4), (.long x5)] ∧ Z.Warmed39 U.vm ∧ U.heap = h0) (fun _ _ _ _ _ => True) (fun _ U o U' => ∃ v L, o = .returned v ∧ own_F1 Z x0 x1 x2 x3 x4 x5 n0 h0 v U'.heap L ∧ FrameEnd U o U' L ({ frames := 0, cells := 1, slots := 5, locals := 0 } : Room).cells ({ frames := 0, cells := 1, slots := 5, locals := 0 } : Room).slots) := by
  refine MetFree.of_bodySF (plainFor_of_name pn_1) hisR ?_
  intro p e s m args below meth c s₁ Bd hml0 hP hK
  obtain ⟨rfl, hZ, hh⟩ := hP
  have hx := Bd.exec
  have hby := Bd.bytes
  have hml : c.maxLocals = 11 := hml0
  have hown : s.vm.findClass "com/example/backtrail/backtrail/core/GraphMergeMergeFromPinLaw" = some m.cls := findClass_of_methodNamed Bd.named
  have hnm := (name_of_methodNamed Bd.named Bd.method).1
  have X0 : Stand p l e ({ frames := 0, cells := 1, slots := 5, locals := 0 } : Room) s m #[(.int x0), (.long x1), (.long x2), (.long x3), (.long x4), (.long x5)] below meth c s₁ [] 0 0 := Stand.of_body Bd
  have e0 : s₁.heap = h0 := by rw [← hh, Bd.state]; rfl
  have N0 := Fr.nil n0
  have K0 : Keep h0 h0 [] := Keep.refl h0 []
  have hgo : own_Goes p e below s (own_F1 Z x0 x1 x2 x3 x4 x5 n0 h0) 1 5 (s₁.setTop (mkF m 0 #[.val (.int x0), .val (.long x1), .second, .val (.long x2), .second, .val (.long x3), .second, .val (.long x4), .second, .val (.long x5), .second] [])) := by
    refine own_Goes.step (fun tq kq => XS.iloadN X0.here hx rfl (hb hby d1_0) rfl kq) ?_
    show own_Goes p e below s (own_F1 Z x0 x1 x2 x3 x4 x5 n0 h0) 1 5 (s₁.setTop (mkF m 1 #[.val (.int x0), .val (.long x1), .second, .val (.long x2), .second, .val (.long x3), .second, .val (.long x4), .second, .val (.long x5), .second] [(.int x0)]))
    by_cases hc1 : x0 = (0 : Int32)
    · refine own_Goes.step (fun tq kq => XS.ifNo X0.here hx rfl (hb hby d1_1) rfl (XT.i0_ne_f hc1) kq) ?_
      show own_Goes p e below s (own_F1 Z x0 x1 x2 x3 x4 x5 n0 h0) 1 5 (s₁.setTop (mkF m 4 #[.val (.int x0), .val (.long x1), .second, .val (.long x2), .second, .val (.long x3), .second, .val (.long x4), .second, .val (.long x5), .second] []))
      refine own_Goes.step (fun tq kq => XT.iconstV X0.here hx rfl (0 : Int32) (hb hby d1_4) (by decide) kq) ?_
      show own_Goes p e below s (own_F1 Z x0 x1 x2 x3 x4 x5 n0 h0) 1 5 (s₁.setTop (mkF m 5 #[.val (.int x0), .val (.long x1), .second, .val (.long x2), .second, .val (.long x3), .second, .val (.long x4), .second, .val (.long x5), .second] [(.int (0 : Int32))]))
      obtain ⟨T2, h2, k2, X2, e2, E2, A2, st2⟩ := newP X0 hx hZ (hw _ (List.mem_of_getElem? (i := 4) rfl)) e0 (g := (mkF m 5 #[.val (.int x0), .val (.long x1), .second, .val (.long x2), .second, .val (.long x3), .second, .val (.long x4), .second, .val (.long x5), .second] [(.int (0 : Int32))])) rfl (hb hby d1_5) rfl (by decide) (cap := 0) (by decide) (by decide) (by decide) (by decide)
      obtain ⟨a2, g2⟩ : ∃ z, z = h0.size := ⟨_, rfl⟩
      rw [← g2] at A2 st2
      have r2 : own_Ar Z h2 a2 .long 0 (fun uu => .long ((fun _ => (0 : Int64)) uu)) := own_Ar.new A2
      have ga2 : n0 ≤ a2 := Nat.le_trans Z0 (Nat.le_of_eq g2.symm)
      have Z2 : n0 ≤ h2.size := Nat.le_trans Z0 E2.1
      have K2 := K0.ext E2
      have Kh2 : h0.size ≤ a2 := Nat.le_trans K0.1 (Nat.le_of_eq g2.symm)
      refine own_Goes.step st2 ?_
      show own_Goes p e below s (own_F1 Z x0 x1 x2 x3 x4 x5 n0 h0) 1 5 (T2.setTop (mkF m 7 #[.val (.int x0), .val (.long x1), .second, .val (.long x2), .second, .val (.long x3), .second, .val (.long x4), .second, .val (.long x5), .second] [(.ref a2)]))
      refine own_endA X2 hx Bd.notSynchronized rfl Bd.returns rfl (hb hby d1_7) ?_ (by decide) (by decide)
      show own_F1 Z x0 x1 x2 x3 x4 x5 n0 h0 _ T2.heap _
      rw [e2]
      subst hc1
      exact ⟨a2, rfl, N0, ga2, Kh2, K2, r2.congr (fun i hi => by match i, hi with | _, hh => exact absurd hh (by omega))⟩
    · refine own_Goes.step (fun tq kq => XS.ifYes X0.here hx rfl (pc0 := 1) (pc' := 8) rfl (hb hby d1_1) rfl (XT.i0_ne_t hc1) (by decide) (by decide) kq) ?_
      show own_Goes p e below s (own_F1 Z x0 x1 x2 x3 x4 x5 n0 h0) 1 5 (s₁.setTop (mkF m 8 #[.val (.int x0), .val (.long x1), .second, .val (.long x2), .second, .val (.long x3), .second, .val (.long x4), .second, .val (.long x5), .second] []))
      refine own_Goes.step (fun tq kq => XS.iloadN X0.here hx rfl (hb hby d1_8) rfl kq) ?_
      show own_Goes p e below s (own_F1 Z x0 x1 x2 x3 x4 x5 n0 h0) 1 5 (s₁.setTop (mkF m 9 #[.val (.int x0), .val (.long x1), .second, .val (.long x2), .second, .val (.long x3), .second, .val (.long x4), .second, .val (.long x5), .second] [(.int x0)]))
      refine own_Goes.step (fun tq kq => XT.iconstV X0.here hx rfl (1 : Int32) (hb hby d1_9) (by decide) kq) ?_
      show own_Goes p e below s (own_F1 Z x0 x1 x2 x3 x4 x5 n0 h0) 1 5 (s₁.setTop (mkF m 10 #[.val (.int x0), .val (.long x1), .second, .val (.long x2), .second, .val (.long x3), .second, .val (.long x4), .second, .val (.long x5), .second] [(.int (1 : Int32)), (.int x0)]))
      by_cases hc3 : x0 = (1 : Int32)
      · refine own_Goes.step (fun tq kq => XS.icmpNo X0.here hx rfl (hb hby d1_10) rfl (XT.ii_ne_f hc3) kq) ?_
        show own_Goes p e below s (own_F1 Z x0 x1 x2 x3 x4 x5 n0 h0) 1 5 (s₁.setTop (mkF m 13 #[.val (.int x0), .val (.long x1), .second, .val (.long x2), .second, .val (.long x3), .second, .val (.long x4), .second, .val (.long x5), .second] []))
        refine own_Goes.step (fun tq kq => XT.iconstV X0.here hx rfl (1 : Int32) (hb hby d1_13) (by decide) kq) ?_
        show own_Goes p e below s (own_F1 Z x0 x1 x2 x3 x4 x5 n0 h0) 1 5 (s₁.setTop (mkF m 14 #[.val (.int x0), .val (.long x1), .second, .val (.long x2), .second, .val (.long x3), .second, .val (.long x4), .second, .val (.long x5), .second] [(.int (1 : Int32))]))
        obtain ⟨T4, h4, k4, X4, e4, E4, A4, st4⟩ := newP X0 hx hZ (hw _ (List.mem_of_getElem? (i := 4) rfl)) e0 (g := (mkF m 14 #[.val (.int x0), .val (.long x1), .second, .val (.long x2), .second, .val (.long x3), .second, .val (.long x4), .second, .val (.long x5), .second] [(.int (1 : Int32))])) rfl (hb hby d1_14) rfl (by decide) (cap := 1) (by decide) (by decide) (by decide) (by decide)
        obtain ⟨a4, g4⟩ : ∃ z, z = h0.size := ⟨_, rfl⟩
        rw [← g4] at A4 st4
        have r4 : own_Ar Z h4 a4 .long 1 (fun uu => .long ((fun _ => (0 : Int64)) uu)) := own_Ar.new A4
        have ga4 : n0 ≤ a4 := Nat.le_trans Z0 (Nat.le_of_eq g4.symm)
        have Z4 : n0 ≤ h4.size := Nat.le_trans Z0 E4.1
        have K4 := K0.ext E4
        have Kh4 : h0.size ≤ a4 := Nat.le_trans K0.1 (Nat.le_of_eq g4.symm)
        refine own_Goes.step st4 ?_
        show own_Goes p e below s (own_F1 Z x0 x1 x2 x3 x4 x5 n0 h0) 1 5 (T4.setTop (mkF m 16 #[.val (.int x0), .val (.long x1), .second, .val (.long x2), .second, .val (.long x3), .second, .val (.long x4), .second, .val (.long x5), .second] [(.ref a4)]))
        refine own_Goes.step (fun tq kq => XS.dup X4.here hx rfl (hb hby d1_16) rfl rfl kq) ?_
        show own_Goes p e below s (own_F1 Z x0 x1 x2 x3 x4 x5 n0 h0) 1 5 (T4.setTop (mkF m 17 #[.val (.int x0), .val (.long x1), .second, .val (.long x2), .second, .val (.long x3), .second, .val (.long x4), .second, .val (.long x5), .second] [(.ref a4), (.ref a4)]))
        refine own_Goes.step (fun tq kq => XT.iconstV X4.here hx rfl (0 : Int32) (hb hby d1_17) (by decide) kq) ?_
        show own_Goes p e below s (own_F1 Z x0 x1 x2 x3 x4 x5 n0 h0) 1 5 (T4.setTop (mkF m 18 #[.val (.int x0), .val (.long x1), .second, .val (.long x2), .second, .val (.long x3), .second, .val (.long x4), .second, .val (.long x5), .second] [(.int (0 : Int32)), (.ref a4), (.ref a4)]))
        refine own_Goes.step (fun tq kq => XT.lloadN X4.here hx rfl (hb hby d1_18) rfl kq) ?_
        show own_Goes p e below s (own_F1 Z x0 x1 x2 x3 x4 x5 n0 h0) 1 5 (T4.setTop (mkF m 19 #[.val (.int x0), .val (.long x1), .second, .val (.long x2), .second, .val (.long x3), .second, .val (.long x4), .second, .val (.long x5), .second] [(.long x1), (.int (0 : Int32)), (.ref a4), (.ref a4)]))
        obtain ⟨T5, h5, X5, e5, W5, st5⟩ := own_last X4 hx hZ e4 r4 (i := 0) rfl (by decide) (g := (mkF m 19 #[.val (.int x0), .val (.long x1), .second, .val (.long x2), .second, .val (.long x3), .second, .val (.long x4), .second, .val (.long x5), .second] [(.long x1), (.int (0 : Int32)), (.ref a4), (.ref a4)])) rfl rfl (hb hby d1_19)
        refine own_Goes.step st5 ?_
        have f6 : own_Ar Z h5 a4 .long 1 (fun uu => .long ((fun j => if j = 0 then x1 else (fun _ => (0 : Int64)) j) uu)) := (r4.set W5).congr fun j _ => by dsimp only; exact (apply_ite Value.long _ _ _).symm
        have K7 := K4.wr W5 (Or.inr Kh4)
        have N8 := Fr.snoc X5 N0 ga4
        have Z9 : n0 ≤ h5.size := Nat.le_trans Z4 (Keep.of_wr W5).1
        show own_Goes p e below s (own_F1 Z x0 x1 x2 x3 x4 x5 n0 h0) 1 5 (T5.setTop (mkF m 20 #[.val (.int x0), .val (.long x1), .second, .val (.long x2), .second, .val (.long x3), .second, .val (.long x4), .second, .val (.long x5), .second] [(.ref a4)]))
        refine own_endA X5 hx Bd.notSynchronized rfl Bd.returns rfl (hb hby d1_20) ?_ (by decide) (by decide)
        show own_F1 Z x0 x1 x2 x3 x4 x5 n0 h0 _ T5.heap _
        rw [e5]
        subst hc3
        exact ⟨a4, rfl, N8, ga4, Kh4, K7, f6.congr (fun i hi => by match i, hi with | 0, _ => rfl | _ + 1, hh => exact absurd hh (by omega))⟩
      · refine own_Goes.step (fun tq kq => XS.icmpYes X0.here hx rfl (pc0 := 10) (pc' := 21) rfl (hb hby d1_10) rfl (XT.ii_ne_t hc3) (by decide) (by decide) kq) ?_
        show own_Goes p e below s (own_F1 Z x0 x1 x2 x3 x4 x5 n0 h0) 1 5 (s₁.setTop (mkF m 21 #[.val (.int x0), .val (.long x1), .second, .val (.long x2), .second, .val (.long x3), .second, .val (.long x4), .second, .val (.long x5), .second] []))
        refine own_Goes.step (fun tq kq => XS.iloadN X0.here hx rfl (hb hby d1_21) rfl kq) ?_
        show own_Goes p e below s (own_F1 Z x0 x1 x2 x3 x4 x5 n0 h0) 1 5 (s₁.setTop (mkF m 22 #[.val (.int x0), .val (.long x1), .second, .val (.long x2), .second, .val (.long x3), .second, .val (.long x4), .second, .val (.long x5), .second] [(.int x0)]))
        refine own_Goes.step (fun tq kq => XT.iconstV X0.here hx rfl (2 : Int32) (hb hby d1_22) (by decide) kq) ?_
        show own_Goes p e below s (own_F1 Z x0 x1 x2 x3 x4 x5 n0 h0) 1 5 (s₁.setTop (mkF m 23 #[.val (.int x0), .val (.long x1), .second, .val (.long x2), .second, .val (.long x3), .second, .val (.long x4), .second, .val (.long x5), .second] [(.int (2 : Int32)), (.int x0)]))
        by_cases hc10 : x0 = (2 : Int32)
        · refine own_Goes.step (fun tq kq => XS.icmpNo X0.here hx rfl (hb hby d1_23) rfl (XT.ii_ne_f hc10) kq) ?_
          show own_Goes p e below s (own_F1 Z x0 x1 x2 x3 x4 x5 n0 h0) 1 5 (s₁.setTop (mkF m 26 #[.val (.int x0), .val (.long x1), .second, .val (.long x2), .second, .val (.long x3), .second, .val (.long x4), .second, .val (.long x5), .second] []))
          refine own_Goes.step (fun tq kq => XT.iconstV X0.here hx rfl (2 : Int32) (hb hby d1_26) (by decide) kq) ?_
          show own_Goes p e below s (own_F1 Z x0 x1 x2 x3 x4 x5 n0 h0) 1 5 (s₁.setTop (mkF m 27 #[.val (.int x0), .val (.long x1), .second, .val (.long x2), .second, .val (.long x3), .second, .val (.long x4), .second, .val (.long x5), .second] [(.int (2 : Int32))]))
          obtain ⟨T11, h11, k11, X11, e11, E11, A11, st11⟩ := newP X0 hx hZ (hw _ (List.mem_of_getElem? (i := 4) rfl)) e0 (g := (mkF m 27 #[.val (.int x0), .val (.long x1), .second, .val (.long x2), .second, .val (.long x3), .second, .val (.long x4), .second, .val (.long x5), .second] [(.int (2 : Int32))])) rfl (hb hby d1_27) rfl (by decide) (cap := 2) (by decide) (by decide) (by decide) (by decide)
          obtain ⟨a11, g11⟩ : ∃ z, z = h0.size := ⟨_, rfl⟩
          rw [← g11] at A11 st11
          have r11 : own_Ar Z h11 a11 .long 2 (fun uu => .long ((fun _ => (0 : Int64)) uu)) := own_Ar.new A11
          have ga11 : n0 ≤ a11 := Nat.le_trans Z0 (Nat.le_of_eq g11.symm)
          have Z11 : n0 ≤ h11.size := Nat.le_trans Z0 E11.1
          have K11 := K0.ext E11
          have Kh11 : h0.size ≤ a11 := Nat.le_trans K0.1 (Nat.le_of_eq g11.symm)
          refine own_Goes.step st11 ?_
          show own_Goes p e below s (own_F1 Z x0 x1 x2 x3 x4 x5 n0 h0) 1 5 (T11.setTop (mkF m 29 #[.val (.int x0), .val (.long x1), .second, .val (.long x2), .second, .val (.long x3), .second, .val (.long x4), .second, .val (.long x5), .second] [(.ref a11)]))
          refine own_Goes.step (fun tq kq => XS.dup X11.here hx rfl (hb hby d1_29) rfl rfl kq) ?_
          show own_Goes p e below s (own_F1 Z x0 x1 x2 x3 x4 x5 n0 h0) 1 5 (T11.setTop (mkF m 30 #[.val (.int x0), .val (.long x1), .second, .val (.long x2), .second, .val (.long x3), .second, .val (.long x4), .second, .val (.long x5), .second] [(.ref a11), (.ref a11)]))
          refine own_Goes.step (fun tq kq => XT.iconstV X11.here hx rfl (0 : Int32) (hb hby d1_30) (by decide) kq) ?_
          show own_Goes p e below s (own_F1 Z x0 x1 x2 x3 x4 x5 n0 h0) 1 5 (T11.setTop (mkF m 31 #[.val (.int x0), .val (.long x1), .second, .val (.long x2), .second, .val (.long x3), .second, .val (.long x4), .second, .val (.long x5), .second] [(.int (0 : Int32)), (.ref a11), (.ref a11)]))
          refine own_Goes.step (fun tq kq => XT.lloadN X11.here hx rfl (hb hby d1_31) rfl kq) ?_
          show own_Goes p e below s (own_F1 Z x0 x1 x2 x3 x4 x5 n0 h0) 1 5 (T11.setTop (mkF m 32 #[.val (.int x0), .val (.long x1), .second, .val (.long x2), .second, .val (.long x3), .second, .val (.long x4), .second, .val (.long x5), .second] [(.long x1), (.int (0 : Int32)), (.ref a11), (.ref a11)]))
          obtain ⟨T12, h12, X12, e12, W12, st12⟩ := own_last X11 hx hZ e11 r11 (i := 0) rfl (by decide) (g := (mkF m 32 #[.val (.int x0), .val (.long x1), .second, .val (.long x2), .second, .val (.long x3), .second, .val (.long x4), .second, .val (.long x5), .second] [(.long x1), (.int (0 : Int32)), (.ref a11), (.ref a11)])) rfl rfl (hb hby d1_32)
          refine own_Goes.step st12 ?_
          have f13 : own_Ar Z h12 a11 .long 2 (fun uu => .long ((fun j => if j = 0 then x1 else (fun _ => (0 : Int64)) j) uu)) := (r11.set W12).congr fun j _ => by dsimp only; exact (apply_ite Value.long _ _ _).symm
          have K14 := K11.wr W12 (Or.inr Kh11)
          have N15 := Fr.snoc X12 N0 ga11
          have Z16 : n0 ≤ h12.size := Nat.le_trans Z11 (Keep.of_wr W12).1
          show own_Goes p e below s (own_F1 Z x0 x1 x2 x3 x4 x5 n0 h0) 1 5 (T12.setTop (mkF m 33 #[.val (.int x0), .val (.long x1), .second, .val (.long x2), .second, .val (.long x3), .second, .val (.long x4), .second, .val (.long x5), .second] [(.ref a11)]))
          refine own_Goes.step (fun tq kq => XS.dup X12.here hx rfl (hb hby d1_33) rfl rfl kq) ?_
          show own_Goes p e below s (own_F1 Z x0 x1 x2 x3 x4 x5 n0 h0) 1 5 (T12.setTop (mkF m 34 #[.val (.int x0), .val (.long x1), .second, .val (.long x2), .second, .val (.long x3), .second, .val (.long x4), .second, .val (.long x5), .second] [(.ref a11), (.ref a11)]))
          refine own_Goes.step (fun tq kq => XT.iconstV X12.here hx rfl (1 : Int32) (hb hby d1_34) (by decide) kq) ?_
          show own_Goes p e below s (own_F1 Z x0 x1 x2 x3 x4 x5 n0 h0) 1 5 (T12.setTop (mkF m 35 #[.val (.int x0), .val (.long x1), .second, .val (.long x2), .second, .val (.long x3), .second, .val (.long x4), .second, .val (.long x5), .second] [(.int (1 : Int32)), (.ref a11), (.ref a11)]))
          refine own_Goes.step (fun tq kq => XT.lloadN X12.here hx rfl (hb hby d1_35) rfl kq) ?_
          show own_Goes p e below s (own_F1 Z x0 x1 x2 x3 x4 x5 n0 h0) 1 5 (T12.setTop (mkF m 36 #[.val (.int x0), .val (.long x1), .second, .val (.long x2), .second, .val (.long x3), .second, .val (.long x4), .second, .val (.long x5), .second] [(.long x2), (.int (1 : Int32)), (.ref a11), (.ref a11)]))
          obtain ⟨T17, h17, X17, e17, W17, st17⟩ := own_last X12 hx hZ e12 f13 (i := 1) rfl (by decide) (g := (mkF m 36 #[.val (.int x0), .val (.long x1), .second, .val (.long x2), .second, .val (.long x3), .second, .val (.long x4), .second, .val (.long x5), .second] [(.long x2), (.int (1 : Int32)), (.ref a11), (.ref a11)])) rfl rfl (hb hby d1_36)
          refine own_Goes.step st17 ?_
          have f18 : own_Ar Z h17 a11 .long 2 (fun uu => .long ((fun j => if j = 1 then x2 else (fun j => if j = 0 then x1 else (fun _ => (0 : Int64)) j) j) uu)) := (f13.set W17).congr fun j _ => by dsimp only; exact (apply_ite Value.long _ _ _).symm
          have K19 := K14.wr W17 (Or.inr Kh11)
          have N20 := Fr.snoc X17 N15 ga11
          have Z21 : n0 ≤ h17.size := Nat.le_trans Z16 (Keep.of_wr W17).1
          show own_Goes p e below s (own_F1 Z x0 x1 x2 x3 x4 x5 n0 h0) 1 5 (T17.setTop (mkF m 37 #[.val (.int x0), .val (.long x1), .second, .val (.long x2), .second, .val (.long x3), .second, .val (.long x4), .second, .val (.long x5), .second] [(.ref a11)]))
          refine own_endA X17 hx Bd.notSynchronized rfl Bd.returns rfl (hb hby d1_37) ?_ (by decide) (by decide)
          show own_F1 Z x0 x1 x2 x3 x4 x5 n0 h0 _ T17.heap _
          rw [e17]
          subst hc10
          exact ⟨a11, rfl, N20, ga11, Kh11, K19, f18.congr (fun i hi => by match i, hi with | 0, _ => rfl | 1, _ => rfl | _ + 2, hh => exact absurd hh (by omega))⟩
        · refine own_Goes.step (fun tq kq => XS.icmpYes X0.here hx rfl (pc0 := 23) (pc' := 38) rfl (hb hby d1_23) rfl (XT.ii_ne_t hc10) (by decide) (by decide) kq) ?_
          show own_Goes p e below s (own_F1 Z x0 x1 x2 x3 x4 x5 n0 h0) 1 5 (s₁.setTop (mkF m 38 #[.val (.int x0), .val (.long x1), .second, .val (.long x2), .second, .val (.long x3), .second, .val (.long x4), .second, .val (.long x5), .second] []))
          refine own_Goes.step (fun tq kq => XS.iloadN X0.here hx rfl (hb hby d1_38) rfl kq) ?_
          show own_Goes p e below s (own_F1 Z x0 x1 x2 x3 x4 x5 n0 h0) 1 5 (s₁.setTop (mkF m 39 #[.val (.int x0), .val (.long x1), .second, .val (.long x2), .second, .val (.long x3), .second, .val (.long x4), .second, .val (.long x5), .second] [(.int x0)]))
          refine own_Goes.step (fun tq kq => XT.iconstV X0.here hx rfl (3 : Int32) (hb hby d1_39) (by decide) kq) ?_
          show own_Goes p e below s (own_F1 Z x0 x1 x2 x3 x4 x5 n0 h0) 1 5 (s₁.setTop (mkF m 40 #[.val (.int x0), .val (.long x1), .second, .val (.long x2), .second, .val (.long x3), .second, .val (.long x4), .second, .val (.long x5), .second] [(.int (3 : Int32)), (.int x0)]))
          by_cases hc22 : x0 = (3 : Int32)
          · refine own_Goes.step (fun tq kq => XS.icmpNo X0.here hx rfl (hb hby d1_40) rfl (XT.ii_ne_f hc22) kq) ?_
            show own_Goes p e below s (own_F1 Z x0 x1 x2 x3 x4 x5 n0 h0) 1 5 (s₁.setTop (mkF m 43 #[.val (.int x0), .val (.long x1), .second, .val (.long x2), .second, .val (.long x3), .second, .val (.long x4), .second, .val (.long x5), .second] []))
            refine own_Goes.step (fun tq kq => XT.iconstV X0.here hx rfl (3 : Int32) (hb hby d1_43) (by decide) kq) ?_
            show own_Goes p e below s (own_F1 Z x0 x1 x2 x3 x4 x5 n0 h0) 1 5 (s₁.setTop (mkF m 44 #[.val (.int x0), .val (.long x1), .second, .val (.long x2), .second, .val (.long x3), .second, .val (.long x4), .second, .val (.long x5), .second] [(.int (3 : Int32))]))
            obtain ⟨T23, h23, k23, X23, e23, E23, A23, st23⟩ := newP X0 hx hZ (hw _ (List.mem_of_getElem? (i := 4) rfl)) e0 (g := (mkF m 44 #[.val (.int x0), .val (.long x1), .second, .val (.long x2), .second, .val (.long x3), .second, .val (.long x4), .second, .val (.long x5), .second] [(.int (3 : Int32))])) rfl (hb hby d1_44) rfl (by decide) (cap := 3) (by decide) (by decide) (by decide) (by decide)
            obtain ⟨a23, g23⟩ : ∃ z, z = h0.size := ⟨_, rfl⟩
            rw [← g23] at A23 st23
            have r23 : own_Ar Z h23 a23 .long 3 (fun uu => .long ((fun _ => (0 : Int64)) uu)) := own_Ar.new A23
            have ga23 : n0 ≤ a23 := Nat.le_trans Z0 (Nat.le_of_eq g23.symm)
            have Z23 : n0 ≤ h23.size := Nat.le_trans Z0 E23.1
            have K23 := K0.ext E23
            have Kh23 : h0.size ≤ a23 := Nat.le_trans K0.1 (Nat.le_of_eq g23.symm)
            refine own_Goes.step st23 ?_
            show own_Goes p e below s (own_F1 Z x0 x1 x2 x3 x4 x5 n0 h0) 1 5 (T23.setTop (mkF m 46 #[.val (.int x0), .val (.long x1), .second, .val (.long x2), .second, .val (.long x3), .second, .val (.long x4), .second, .val (.long x5), .second] [(.ref a23)]))
            refine own_Goes.step (fun tq kq => XS.dup X23.here hx rfl (hb hby d1_46) rfl rfl kq) ?_
            show own_Goes p e below s (own_F1 Z x0 x1 x2 x3 x4 x5 n0 h0) 1 5 (T23.setTop (mkF m 47 #[.val (.int x0), .val (.long x1), .second, .val (.long x2), .second, .val (.long x3), .second, .val (.long x4), .second, .val (.long x5), .second] [(.ref a23), (.ref a23)]))
            refine own_Goes.step (fun tq kq => XT.iconstV X23.here hx rfl (0 : Int32) (hb hby d1_47) (by decide) kq) ?_
            show own_Goes p e below s (own_F1 Z x0 x1 x2 x3 x4 x5 n0 h0) 1 5 (T23.setTop (mkF m 48 #[.val (.int x0), .val (.long x1), .second, .val (.long x2), .second, .val (.long x3), .second, .val (.long x4), .second, .val (.long x5), .second] [(.int (0 : Int32)), (.ref a23), (.ref a23)]))
            refine own_Goes.step (fun tq kq => XT.lloadN X23.here hx rfl (hb hby d1_48) rfl kq) ?_
            show own_Goes p e below s (own_F1 Z x0 x1 x2 x3 x4 x5 n0 h0) 1 5 (T23.setTop (mkF m 49 #[.val (.int x0), .val (.long x1), .second, .val (.long x2), .second, .val (.long x3), .second, .val (.long x4), .second, .val (.long x5), .second] [(.long x1), (.int (0 : Int32)), (.ref a23), (.ref a23)]))
            obtain ⟨T24, h24, X24, e24, W24, st24⟩ := own_last X23 hx hZ e23 r23 (i := 0) rfl (by decide) (g := (mkF m 49 #[.val (.int x0), .val (.long x1), .second, .val (.long x2), .second, .val (.long x3), .second, .val (.long x4), .second, .val (.long x5), .second] [(.long x1), (.int (0 : Int32)), (.ref a23), (.ref a23)])) rfl rfl (hb hby d1_49)
            refine own_Goes.step st24 ?_
            have f25 : own_Ar Z h24 a23 .long 3 (fun uu => .long ((fun j => if j = 0 then x1 else (fun _ => (0 : Int64)) j) uu)) := (r23.set W24).congr fun j _ => by dsimp only; exact (apply_ite Value.long _ _ _).symm
            have K26 := K23.wr W24 (Or.inr Kh23)
            have N27 := Fr.snoc X24 N0 ga23
            have Z28 : n0 ≤ h24.size := Nat.le_trans Z23 (Keep.of_wr W24).1
            show own_Goes p e below s (own_F1 Z x0 x1 x2 x3 x4 x5 n0 h0) 1 5 (T24.setTop (mkF m 50 #[.val (.int x0), .val (.long x1), .second, .val (.long x2), .second, .val (.long x3), .second, .val (.long x4), .second, .val (.long x5), .second] [(.ref a23)]))
            refine own_Goes.step (fun tq kq => XS.dup X24.here hx rfl (hb hby d1_50) rfl rfl kq) ?_
            show own_Goes p e below s (own_F1 Z x0 x1 x2 x3 x4 x5 n0 h0) 1 5 (T24.setTop (mkF m 51 #[.val (.int x0), .val (.long x1), .second, .val (.long x2), .second, .val (.long x3), .second, .val (.long x4), .second, .val (.long x5), .second] [(.ref a23), (.ref a23)]))
            refine own_Goes.step (fun tq kq => XT.iconstV X24.here hx rfl (1 : Int32) (hb hby d1_51) (by decide) kq) ?_
            show own_Goes p e below s (own_F1 Z x0 x1 x2 x3 x4 x5 n0 h0) 1 5 (T24.setTop (mkF m 52 #[.val (.int x0), .val (.long x1), .second, .val (.long x2), .second, .val (.long x3), .second, .val (.long x4), .second, .val (.long x5), .second] [(.int (1 : Int32)), (.ref a23), (.ref a23)]))
            refine own_Goes.step (fun tq kq => XT.lloadN X24.here hx rfl (hb hby d1_52) rfl kq) ?_
            show own_Goes p e below s (own_F1 Z x0 x1 x2 x3 x4 x5 n0 h0) 1 5 (T24.setTop (mkF m 53 #[.val (.int x0), .val (.long x1), .second, .val (.long x2), .second, .val (.long x3), .second, .val (.long x4), .second, .val (.long x5), .second] [(.long x2), (.int (1 : Int32)), (.ref a23), (.ref a23)]))
            obtain ⟨T29, h29, X29, e29, W29, st29⟩ := own_last X24 hx hZ e24 f25 (i := 1) rfl (by decide) (g := (mkF m 53 #[.val (.int x0), .val (.long x1), .second, .val (.long x2), .second, .val (.long x3), .second, .val (.long x4), .second, .val (.long x5), .second] [(.long x2), (.int (1 : Int32)), (.ref a23), (.ref a23)])) rfl rfl (hb hby d1_53)
            refine own_Goes.step st29 ?_
            have f30 : own_Ar Z h29 a23 .long 3 (fun uu => .long ((fun j => if j = 1 then x2 else (fun j => if j = 0 then x1 else (fun _ => (0 : Int64)) j) j) uu)) := (f25.set W29).congr fun j _ => by dsimp only; exact (apply_ite Value.long _ _ _).symm
            have K31 := K26.wr W29 (Or.inr Kh23)
            have N32 := Fr.snoc X29 N27 ga23
            have Z33 : n0 ≤ h29.size := Nat.le_trans Z28 (Keep.of_wr W29).1
            show own_Goes p e below s (own_F1 Z x0 x1 x2 x3 x4 x5 n0 h0) 1 5 (T29.setTop (mkF m 54 #[.val (.int x0), .val (.long x1), .second, .val (.long x2), .second, .val (.long x3), .second, .val (.long x4), .second, .val (.long x5), .second] [(.ref a23)]))
            refine own_Goes.step (fun tq kq => XS.dup X29.here hx rfl (hb hby d1_54) rfl rfl kq) ?_
            show own_Goes p e below s (own_F1 Z x0 x1 x2 x3 x4 x5 n0 h0) 1 5 (T29.setTop (mkF m 55 #[.val (.int x0), .val (.long x1), .second, .val (.long x2), .second, .val (.long x3), .second, .val (.long x4), .second, .val (.long x5), .second] [(.ref a23), (.ref a23)]))
            refine own_Goes.step (fun tq kq => XT.iconstV X29.here hx rfl (2 : Int32) (hb hby d1_55) (by decide) kq) ?_
            show own_Goes p e below s (own_F1 Z x0 x1 x2 x3 x4 x5 n0 h0) 1 5 (T29.setTop (mkF m 56 #[.val (.int x0), .val (.long x1), .second, .val (.long x2), .second, .val (.long x3), .second, .val (.long x4), .second, .val (.long x5), .second] [(.int (2 : Int32)), (.ref a23), (.ref a23)]))
            refine own_Goes.step (fun tq kq => XT.lload X29.here hx rfl (hb hby d1_56) rfl kq) ?_
            show own_Goes p e below s (own_F1 Z x0 x1 x2 x3 x4 x5 n0 h0) 1 5 (T29.setTop (mkF m 58 #[.val (.int x0), .val (.long x1), .second, .val (.long x2), .second, .val (.long x3), .second, .val (.long x4), .second, .val (.long x5), .second] [(.long x3), (.int (2 : Int32)), (.ref a23), (.ref a23)]))
            obtain ⟨T34, h34, X34, e34, W34, st34⟩ := own_last X29 hx hZ e29 f30 (i := 2) rfl (by decide) (g := (mkF m 58 #[.val (.int x0), .val (.long x1), .second, .val (.long x2), .second, .val (.long x3), .second, .val (.long x4), .second, .val (.long x5), .second] [(.long x3), (.int (2 : Int32)), (.ref a23), (.ref a23)])) rfl rfl (hb hby d1_58)
            refine own_Goes.step st34 ?_
            have f35 : own_Ar Z h34 a23 .long 3 (fun uu => .long ((fun j => if j = 2 then x3 else (fun j => if j = 1 then x2 else (fun j => if j = 0 then x1 else (fun _ => (0 : Int64)) j) j) j) uu)) := (f30.set W34).congr fun j _ => by dsimp only; exact (apply_ite Value.long _ _ _).symm
            have K36 := K31.wr W34 (Or.inr Kh23)
            have N37 := Fr.snoc X34 N32 ga23
            have Z38 : n0 ≤ h34.size := Nat.le_trans Z33 (Keep.of_wr W34).1
            show own_Goes p e below s (own_F1 Z x0 x1 x2 x3 x4 x5 n0 h0) 1 5 (T34.setTop (mkF m 59 #[.val (.int x0), .val (.long x1), .second, .val (.long x2), .second, .val (.long x3), .second, .val (.long x4), .second, .val (.long x5), .second] [(.ref a23)]))
            refine own_endA X34 hx Bd.notSynchronized rfl Bd.returns rfl (hb hby d1_59) ?_ (by decide) (by decide)
            show own_F1 Z x0 x1 x2 x3 x4 x5 n0 h0 _ T34.heap _
            rw [e34]
            subst hc22
            exact ⟨a23, rfl, N37, ga23, Kh23, K36, f35.congr (fun i hi => by match i, hi with | 0, _ => rfl | 1, _ => rfl | 2, _ => rfl | _ + 3, hh => exact absurd hh (by omega))⟩
          · refine own_Goes.step (fun tq kq => XS.icmpYes X0.here hx rfl (pc0 := 40) (pc' := 60) rfl (hb hby d1_40) rfl (XT.ii_ne_t hc22) (by decide) (by decide) kq) ?_
            show own_Goes p e below s (own_F1 Z x0 x1 x2 x3 x4 x5 n0 h0) 1 5 (s₁.setTop (mkF m 60 #[.val (.int x0), .val (.long x1), .second, .val (.long x2), .second, .val (.long x3), .second, .val (.long x4), .second, .val (.long x5), .second] []))
            refine own_Goes.step (fun tq kq => XS.iloadN X0.here hx rfl (hb hby d1_60) rfl kq) ?_
            show own_Goes p e below s (own_F1 Z x0 x1 x2 x3 x4 x5 n0 h0) 1 5 (s₁.setTop (mkF m 61 #[.val (.int x0), .val (.long x1), .second, .val (.long x2), .second, .val (.long x3), .second, .val (.long x4), .second, .val (.long x5), .second] [(.int x0)]))
            refine own_Goes.step (fun tq kq => XT.iconstV X0.here hx rfl (4 : Int32) (hb hby d1_61) (by decide) kq) ?_
            show own_Goes p e below s (own_F1 Z x0 x1 x2 x3 x4 x5 n0 h0) 1 5 (s₁.setTop (mkF m 62 #[.val (.int x0), .val (.long x1), .second, .val (.long x2), .second, .val (.long x3), .second, .val (.long x4), .second, .val (.long x5), .second] [(.int (4 : Int32)), (.int x0)]))
            by_cases hc39 : x0 = (4 : Int32)
            · refine own_Goes.step (fun tq kq => XS.icmpNo X0.here hx rfl (hb hby d1_62) rfl (XT.ii_ne_f hc39) kq) ?_
              show own_Goes p e below s (own_F1 Z x0 x1 x2 x3 x4 x5 n0 h0) 1 5 (s₁.setTop (mkF m 65 #[.val (.int x0), .val (.long x1), .second, .val (.long x2), .second, .val (.long x3), .second, .val (.long x4), .second, .val (.long x5), .second] []))
              refine own_Goes.step (fun tq kq => XT.iconstV X0.here hx rfl (4 : Int32) (hb hby d1_65) (by decide) kq) ?_
              show own_Goes p e below s (own_F1 Z x0 x1 x2 x3 x4 x5 n0 h0) 1 5 (s₁.setTop (mkF m 66 #[.val (.int x0), .val (.long x1), .second, .val (.long x2), .second, .val (.long x3), .second, .val (.long x4), .second, .val (.long x5), .second] [(.int (4 : Int32))]))
              obtain ⟨T40, h40, k40, X40, e40, E40, A40, st40⟩ := newP X0 hx hZ (hw _ (List.mem_of_getElem? (i := 4) rfl)) e0 (g := (mkF m 66 #[.val (.int x0), .val (.long x1), .second, .val (.long x2), .second, .val (.long x3), .second, .val (.long x4), .second, .val (.long x5), .second] [(.int (4 : Int32))])) rfl (hb hby d1_66) rfl (by decide) (cap := 4) (by decide) (by decide) (by decide) (by decide)
              obtain ⟨a40, g40⟩ : ∃ z, z = h0.size := ⟨_, rfl⟩
              rw [← g40] at A40 st40
              have r40 : own_Ar Z h40 a40 .long 4 (fun uu => .long ((fun _ => (0 : Int64)) uu)) := own_Ar.new A40
              have ga40 : n0 ≤ a40 := Nat.le_trans Z0 (Nat.le_of_eq g40.symm)
              have Z40 : n0 ≤ h40.size := Nat.le_trans Z0 E40.1
              have K40 := K0.ext E40
              have Kh40 : h0.size ≤ a40 := Nat.le_trans K0.1 (Nat.le_of_eq g40.symm)
              refine own_Goes.step st40 ?_
              show own_Goes p e below s (own_F1 Z x0 x1 x2 x3 x4 x5 n0 h0) 1 5 (T40.setTop (mkF m 68 #[.val (.int x0), .val (.long x1), .second, .val (.long x2), .second, .val (.long x3), .second, .val (.long x4), .second, .val (.long x5), .second] [(.ref a40)]))
              refine own_Goes.step (fun tq kq => XS.dup X40.here hx rfl (hb hby d1_68) rfl rfl kq) ?_
              show own_Goes p e below s (own_F1 Z x0 x1 x2 x3 x4 x5 n0 h0) 1 5 (T40.setTop (mkF m 69 #[.val (.int x0), .val (.long x1), .second, .val (.long x2), .second, .val (.long x3), .second, .val (.long x4), .second, .val (.long x5), .second] [(.ref a40), (.ref a40)]))
              refine own_Goes.step (fun tq kq => XT.iconstV X40.here hx rfl (0 : Int32) (hb hby d1_69) (by decide) kq) ?_
              show own_Goes p e below s (own_F1 Z x0 x1 x2 x3 x4 x5 n0 h0) 1 5 (T40.setTop (mkF m 70 #[.val (.int x0), .val (.long x1), .second, .val (.long x2), .second, .val (.long x3), .second, .val (.long x4), .second, .val (.long x5), .second] [(.int (0 : Int32)), (.ref a40), (.ref a40)]))
              refine own_Goes.step (fun tq kq => XT.lloadN X40.here hx rfl (hb hby d1_70) rfl kq) ?_
              show own_Goes p e below s (own_F1 Z x0 x1 x2 x3 x4 x5 n0 h0) 1 5 (T40.setTop (mkF m 71 #[.val (.int x0), .val (.long x1), .second, .val (.long x2), .second, .val (.long x3), .second, .val (.long x4), .second, .val (.long x5), .second] [(.long x1), (.int (0 : Int32)), (.ref a40), (.ref a40)]))
              obtain ⟨T41, h41, X41, e41, W41, st41⟩ := own_last X40 hx hZ e40 r40 (i := 0) rfl (by decide) (g := (mkF m 71 #[.val (.int x0), .val (.long x1), .second, .val (.long x2), .second, .val (.long x3), .second, .val (.long x4), .second, .val (.long x5), .second] [(.long x1), (.int (0 : Int32)), (.ref a40), (.ref a40)])) rfl rfl (hb hby d1_71)
              refine own_Goes.step st41 ?_
              have f42 : own_Ar Z h41 a40 .long 4 (fun uu => .long ((fun j => if j = 0 then x1 else (fun _ => (0 : Int64)) j) uu)) := (r40.set W41).congr fun j _ => by dsimp only; exact (apply_ite Value.long _ _ _).symm
              have K43 := K40.wr W41 (Or.inr Kh40)
              have N44 := Fr.snoc X41 N0 ga40
              have Z45 : n0 ≤ h41.size := Nat.le_trans Z40 (Keep.of_wr W41).1
              show own_Goes p e below s (own_F1 Z x0 x1 x2 x3 x4 x5 n0 h0) 1 5 (T41.setTop (mkF m 72 #[.val (.int x0), .val (.long x1), .second, .val (.long x2), .second, .val (.long x3), .second, .val (.long x4), .second, .val (.long x5), .second] [(.ref a40)]))
              refine own_Goes.step (fun tq kq => XS.dup X41.here hx rfl (hb hby d1_72) rfl rfl kq) ?_
              show own_Goes p e below s (own_F1 Z x0 x1 x2 x3 x4 x5 n0 h0) 1 5 (T41.setTop (mkF m 73 #[.val (.int x0), .val (.long x1), .second, .val (.long x2), .second, .val (.long x3), .second, .val (.long x4), .second, .val (.long x5), .second] [(.ref a40), (.ref a40)]))
              refine own_Goes.step (fun tq kq => XT.iconstV X41.here hx rfl (1 : Int32) (hb hby d1_73) (by decide) kq) ?_
              show own_Goes p e below s (own_F1 Z x0 x1 x2 x3 x4 x5 n0 h0) 1 5 (T41.setTop (mkF m 74 #[.val (.int x0), .val (.long x1), .second, .val (.long x2), .second, .val (.long x3), .second, .val (.long x4), .second, .val (.long x5), .second] [(.int (1 : Int32)), (.ref a40), (.ref a40)]))
              refine own_Goes.step (fun tq kq => XT.lloadN X41.here hx rfl (hb hby d1_74) rfl kq) ?_
              show own_Goes p e below s (own_F1 Z x0 x1 x2 x3 x4 x5 n0 h0) 1 5 (T41.setTop (mkF m 75 #[.val (.int x0), .val (.long x1), .second, .val (.long x2), .second, .val (.long x3), .second, .val (.long x4), .second, .val (.long x5), .second] [(.long x2), (.int (1 : Int32)), (.ref a40), (.ref a40)]))
              obtain ⟨T46, h46, X46, e46, W46, st46⟩ := own_last X41 hx hZ e41 f42 (i := 1) rfl (by decide) (g := (mkF m 75 #[.val (.int x0), .val (.long x1), .second, .val (.long x2), .second, .val (.long x3), .second, .val (.long x4), .second, .val (.long x5), .second] [(.long x2), (.int (1 : Int32)), (.ref a40), (.ref a40)])) rfl rfl (hb hby d1_75)
              refine own_Goes.step st46 ?_
              have f47 : own_Ar Z h46 a40 .long 4 (fun uu => .long ((fun j => if j = 1 then x2 else (fun j => if j = 0 then x1 else (fun _ => (0 : Int64)) j) j) uu)) := (f42.set W46).congr fun j _ => by dsimp only; exact (apply_ite Value.long _ _ _).symm
              have K48 := K43.wr W46 (Or.inr Kh40)
              have N49 := Fr.snoc X46 N44 ga40
              have Z50 : n0 ≤ h46.size := Nat.le_trans Z45 (Keep.of_wr W46).1
              show own_Goes p e below s (own_F1 Z x0 x1 x2 x3 x4 x5 n0 h0) 1 5 (T46.setTop (mkF m 76 #[.val (.int x0), .val (.long x1), .second, .val (.long x2), .second, .val (.long x3), .second, .val (.long x4), .second, .val (.long x5), .second] [(.ref a40)]))
              refine own_Goes.step (fun tq kq => XS.dup X46.here hx rfl (hb hby d1_76) rfl rfl kq) ?_
              show own_Goes p e below s (own_F1 Z x0 x1 x2 x3 x4 x5 n0 h0) 1 5 (T46.setTop (mkF m 77 #[.val (.int x0), .val (.long x1), .second, .val (.long x2), .second, .val (.long x3), .second, .val (.long x4), .second, .val (.long x5), .second] [(.ref a40), (.ref a40)]))
              refine own_Goes.step (fun tq kq => XT.iconstV X46.here hx rfl (2 : Int32) (hb hby d1_77) (by decide) kq) ?_
              show own_Goes p e below s (own_F1 Z x0 x1 x2 x3 x4 x5 n0 h0) 1 5 (T46.setTop (mkF m 78 #[.val (.int x0), .val (.long x1), .second, .val (.long x2), .second, .val (.long x3), .second, .val (.long x4), .second, .val (.long x5), .second] [(.int (2 : Int32)), (.ref a40), (.ref a40)]))
              refine own_Goes.step (fun tq kq => XT.lload X46.here hx rfl (hb hby d1_78) rfl kq) ?_
              show own_Goes p e below s (own_F1 Z x0 x1 x2 x3 x4 x5 n0 h0) 1 5 (T46.setTop (mkF m 80 #[.val (.int x0), .val (.long x1), .second, .val (.long x2), .second, .val (.long x3), .second, .val (.long x4), .second, .val (.long x5), .second] [(.long x3), (.int (2 : Int32)), (.ref a40), (.ref a40)]))
              obtain ⟨T51, h51, X51, e51, W51, st51⟩ := own_last X46 hx hZ e46 f47 (i := 2) rfl (by decide) (g := (mkF m 80 #[.val (.int x0), .val (.long x1), .second, .val (.long x2), .second, .val (.long x3), .second, .val (.long x4), .second, .val (.long x5), .second] [(.long x3), (.int (2 : Int32)), (.ref a40), (.ref a40)])) rfl rfl (hb hby d1_80)
              refine own_Goes.step st51 ?_
              have f52 : own_Ar Z h51 a40 .long 4 (fun uu => .long ((fun j => if j = 2 then x3 else (fun j => if j = 1 then x2 else (fun j => if j = 0 then x1 else (fun _ => (0 : Int64)) j) j) j) uu)) := (f47.set W51).congr fun j _ => by dsimp only; exact (apply_ite Value.long _ _ _).symm
              have K53 := K48.wr W51 (Or.inr Kh40)
              have N54 := Fr.snoc X51 N49 ga40
              have Z55 : n0 ≤ h51.size := Nat.le_trans Z50 (Keep.of_wr W51).1
              show own_Goes p e below s (own_F1 Z x0 x1 x2 x3 x4 x5 n0 h0) 1 5 (T51.setTop (mkF m 81 #[.val (.int x0), .val (.long x1), .second, .val (.long x2), .second, .val (.long x3), .second, .val (.long x4), .second, .val (.long x5), .second] [(.ref a40)]))
              refine own_Goes.step (fun tq kq => XS.dup X51.here hx rfl (hb hby d1_81) rfl rfl kq) ?_
              show own_Goes p e below s (own_F1 Z x0 x1 x2 x3 x4 x5 n0 h0) 1 5 (T51.setTop (mkF m 82 #[.val (.int x0), .val (.long x1), .second, .val (.long x2), .second, .val (.long x3), .second, .val (.long x4), .second, .val (.long x5), .second] [(.ref a40), (.ref a40)]))
              refine own_Goes.step (fun tq kq => XT.iconstV X51.here hx rfl (3 : Int32) (hb hby d1_82) (by decide) kq) ?_
              show own_Goes p e below s (own_F1 Z x0 x1 x2 x3 x4 x5 n0 h0) 1 5 (T51.setTop (mkF m 83 #[.val (.int x0), .val (.long x1), .second, .val (.long x2), .second, .val (.long x3), .second, .val (.long x4), .second, .val (.long x5), .second] [(.int (3 : Int32)), (.ref a40), (.ref a40)]))
              refine own_Goes.step (fun tq kq => XT.lload X51.here hx rfl (hb hby d1_83) rfl kq) ?_
              show own_Goes p e below s (own_F1 Z x0 x1 x2 x3 x4 x5 n0 h0) 1 5 (T51.setTop (mkF m 85 #[.val (.int x0), .val (.long x1), .second, .val (.long x2), .second, .val (.long x3), .second, .val (.long x4), .second, .val (.long x5), .second] [(.long x4), (.int (3 : Int32)), (.ref a40), (.ref a40)]))
              obtain ⟨T56, h56, X56, e56, W56, st56⟩ := own_last X51 hx hZ e51 f52 (i := 3) rfl (by decide) (g := (mkF m 85 #[.val (.int x0), .val (.long x1), .second, .val (.long x2), .second, .val (.long x3), .second, .val (.long x4), .second, .val (.long x5), .second] [(.long x4), (.int (3 : Int32)), (.ref a40), (.ref a40)])) rfl rfl (hb hby d1_85)
              refine own_Goes.step st56 ?_
              have f57 : own_Ar Z h56 a40 .long 4 (fun uu => .long ((fun j => if j = 3 then x4 else (fun j => if j = 2 then x3 else (fun j => if j = 1 then x2 else (fun j => if j = 0 then x1 else (fun _ => (0 : Int64)) j) j) j) j) uu)) := (f52.set W56).congr fun j _ => by dsimp only; exact (apply_ite Value.long _ _ _).symm
              have K58 := K53.wr W56 (Or.inr Kh40)
              have N59 := Fr.snoc X56 N54 ga40
              have Z60 : n0 ≤ h56.size := Nat.le_trans Z55 (Keep.of_wr W56).1
              show own_Goes p e below s (own_F1 Z x0 x1 x2 x3 x4 x5 n0 h0) 1 5 (T56.setTop (mkF m 86 #[.val (.int x0), .val (.long x1), .second, .val (.long x2), .second, .val (.long x3), .second, .val (.long x4), .second, .val (.long x5), .second] [(.ref a40)]))
              refine own_endA X56 hx Bd.notSynchronized rfl Bd.returns rfl (hb hby d1_86) ?_ (by decide) (by decide)
              show own_F1 Z x0 x1 x2 x3 x4 x5 n0 h0 _ T56.heap _
              rw [e56]
              subst hc39
              exact ⟨a40, rfl, N59, ga40, Kh40, K58, f57.congr (fun i hi => by match i, hi with | 0, _ => rfl | 1, _ => rfl | 2, _ => rfl | 3, _ => rfl | _ + 4, hh => exact absurd hh (by omega))⟩
            · refine own_Goes.step (fun tq kq => XS.icmpYes X0.here hx rfl (pc0 := 62) (pc' := 87) rfl (hb hby d1_62) rfl (XT.ii_ne_t hc39) (by decide) (by decide) kq) ?_
              show own_Goes p e below s (own_F1 Z x0 x1 x2 x3 x4 x5 n0 h0) 1 5 (s₁.setTop (mkF m 87 #[.val (.int x0), .val (.long x1), .second, .val (.long x2), .second, .val (.long x3), .second, .val (.long x4), .second, .val (.long x5), .second] []))
              refine own_Goes.step (fun tq kq => XT.iconstV X0.here hx rfl (5 : Int32) (hb hby d1_87) (by decide) kq) ?_
              show own_Goes p e below s (own_F1 Z x0 x1 x2 x3 x4 x5 n0 h0) 1 5 (s₁.setTop (mkF m 88 #[.val (.int x0), .val (.long x1), .second, .val (.long x2), .second, .val (.long x3), .second, .val (.long x4), .second, .val (.long x5), .second] [(.int (5 : Int32))]))
              obtain ⟨T61, h61, k61, X61, e61, E61, A61, st61⟩ := newP X0 hx hZ (hw _ (List.mem_of_getElem? (i := 4) rfl)) e0 (g := (mkF m 88 #[.val (.int x0), .val (.long x1), .second, .val (.long x2), .second, .val (.long x3), .second, .val (.long x4), .second, .val (.long x5), .second] [(.int (5 : Int32))])) rfl (hb hby d1_88) rfl (by decide) (cap := 5) (by decide) (by decide) (by decide) (by decide)
              obtain ⟨a61, g61⟩ : ∃ z, z = h0.size := ⟨_, rfl⟩
              rw [← g61] at A61 st61
              have r61 : own_Ar Z h61 a61 .long 5 (fun uu => .long ((fun _ => (0 : Int64)) uu)) := own_Ar.new A61
              have ga61 : n0 ≤ a61 := Nat.le_trans Z0 (Nat.le_of_eq g61.symm)
              have Z61 : n0 ≤ h61.size := Nat.le_trans Z0 E61.1
              have K61 := K0.ext E61
              have Kh61 : h0.size ≤ a61 := Nat.le_trans K0.1 (Nat.le_of_eq g61.symm)
              refine own_Goes.step st61 ?_
              show own_Goes p e below s (own_F1 Z x0 x1 x2 x3 x4 x5 n0 h0) 1 5 (T61.setTop (mkF m 90 #[.val (.int x0), .val (.long x1), .second, .val (.long x2), .second, .val (.long x3), .second, .val (.long x4), .second, .val (.long x5), .second] [(.ref a61)]))
              refine own_Goes.step (fun tq kq => XS.dup X61.here hx rfl (hb hby d1_90) rfl rfl kq) ?_
              show own_Goes p e below s (own_F1 Z x0 x1 x2 x3 x4 x5 n0 h0) 1 5 (T61.setTop (mkF m 91 #[.val (.int x0), .val (.long x1), .second, .val (.long x2), .second, .val (.long x3), .second, .val (.long x4), .second, .val (.long x5), .second] [(.ref a61), (.ref a61)]))
              refine own_Goes.step (fun tq kq => XT.iconstV X61.here hx rfl (0 : Int32) (hb hby d1_91) (by decide) kq) ?_
              show own_Goes p e below s (own_F1 Z x0 x1 x2 x3 x4 x5 n0 h0) 1 5 (T61.setTop (mkF m 92 #[.val (.int x0), .val (.long x1), .second, .val (.long x2), .second, .val (.long x3), .second, .val (.long x4), .second, .val (.long x5), .second] [(.int (0 : Int32)), (.ref a61), (.ref a61)]))
              refine own_Goes.step (fun tq kq => XT.lloadN X61.here hx rfl (hb hby d1_92) rfl kq) ?_
              show own_Goes p e below s (own_F1 Z x0 x1 x2 x3 x4 x5 n0 h0) 1 5 (T61.setTop (mkF m 93 #[.val (.int x0), .val (.long x1), .second, .val (.long x2), .second, .val (.long x3), .second, .val (.long x4), .second, .val (.long x5), .second] [(.long x1), (.int (0 : Int32)), (.ref a61), (.ref a61)]))
              obtain ⟨T62, h62, X62, e62, W62, st62⟩ := own_last X61 hx hZ e61 r61 (i := 0) rfl (by decide) (g := (mkF m 93 #[.val (.int x0), .val (.long x1), .second, .val (.long x2), .second, .val (.long x3), .second, .val (.long x4), .second, .val (.long x5), .second] [(.long x1), (.int (0 : Int32)), (.ref a61), (.ref a61)])) rfl rfl (hb hby d1_93)
              refine own_Goes.step st62 ?_
              have f63 : own_Ar Z h62 a61 .long 5 (fun uu => .long ((fun j => if j = 0 then x1 else (fun _ => (0 : Int64)) j) uu)) := (r61.set W62).congr fun j _ => by dsimp only; exact (apply_ite Value.long _ _ _).symm
              have K64 := K61.wr W62 (Or.inr Kh61)
              have N65 := Fr.snoc X62 N0 ga61
              have Z66 : n0 ≤ h62.size := Nat.le_trans Z61 (Keep.of_wr W62).1
              show own_Goes p e below s (own_F1 Z x0 x1 x2 x3 x4 x5 n0 h0) 1 5 (T62.setTop (mkF m 94 #[.val (.int x0), .val (.long x1), .second, .val (.long x2), .second, .val (.long x3), .second, .val (.long x4), .second, .val (.long x5), .second] [(.ref a61)]))
              refine own_Goes.step (fun tq kq => XS.dup X62.here hx rfl (hb hby d1_94) rfl rfl kq) ?_
              show own_Goes p e below s (own_F1 Z x0 x1 x2 x3 x4 x5 n0 h0) 1 5 (T62.setTop (mkF m 95 #[.val (.int x0), .val (.long x1), .second, .val (.long x2), .second, .val (.long x3), .second, .val (.long x4), .second, .val (.long x5), .second] [(.ref a61), (.ref a61)]))
              refine own_Goes.step (fun tq kq => XT.iconstV X62.here hx rfl (1 : Int32) (hb hby d1_95) (by decide) kq) ?_
              show own_Goes p e below s (own_F1 Z x0 x1 x2 x3 x4 x5 n0 h0) 1 5 (T62.setTop (mkF m 96 #[.val (.int x0), .val (.long x1), .second, .val (.long x2), .second, .val (.long x3), .second, .val (.long x4), .second, .val (.long x5), .second] [(.int (1 : Int32)), (.ref a61), (.ref a61)]))
              refine own_Goes.step (fun tq kq => XT.lloadN X62.here hx rfl (hb hby d1_96) rfl kq) ?_
              show own_Goes p e below s (own_F1 Z x0 x1 x2 x3 x4 x5 n0 h0) 1 5 (T62.setTop (mkF m 97 #[.val (.int x0), .val (.long x1), .second, .val (.long x2), .second, .val (.long x3), .second, .val (.long x4), .second, .val (.long x5), .second] [(.long x2), (.int (1 : Int32)), (.ref a61), (.ref a61)]))
              obtain ⟨T67, h67, X67, e67, W67, st67⟩ := own_last X62 hx hZ e62 f63 (i := 1) rfl (by decide) (g := (mkF m 97 #[.val (.int x0), .val (.long x1), .second, .val (.long x2), .second, .val (.long x3), .second, .val (.long x4), .second, .val (.long x5), .second] [(.long x2), (.int (1 : Int32)), (.ref a61), (.ref a61)])) rfl rfl (hb hby d1_97)
              refine own_Goes.step st67 ?_
              have f68 : own_Ar Z h67 a61 .long 5 (fun uu => .long ((fun j => if j = 1 then x2 else (fun j => if j = 0 then x1 else (fun _ => (0 : Int64)) j) j) uu)) := (f63.set W67).congr fun j _ => by dsimp only; exact (apply_ite Value.long _ _ _).symm
              have K69 := K64.wr W67 (Or.inr Kh61)
              have N70 := Fr.snoc X67 N65 ga61
              have Z71 : n0 ≤ h67.size := Nat.le_trans Z66 (Keep.of_wr W67).1
              show own_Goes p e below s (own_F1 Z x0 x1 x2 x3 x4 x5 n0 h0) 1 5 (T67.setTop (mkF m 98 #[.val (.int x0), .val (.long x1), .second, .val (.long x2), .second, .val (.long x3), .second, .val (.long x4), .second, .val (.long x5), .second] [(.ref a61)]))
              refine own_Goes.step (fun tq kq => XS.dup X67.here hx rfl (hb hby d1_98) rfl rfl kq) ?_
              show own_Goes p e below s (own_F1 Z x0 x1 x2 x3 x4 x5 n0 h0) 1 5 (T67.setTop (mkF m 99 #[.val (.int x0), .val (.long x1), .second, .val (.long x2), .second, .val (.long x3), .second, .val (.long x4), .second, .val (.long x5), .second] [(.ref a61), (.ref a61)]))
              refine own_Goes.step (fun tq kq => XT.iconstV X67.here hx rfl (2 : Int32) (hb hby d1_99) (by decide) kq) ?_
              show own_Goes p e below s (own_F1 Z x0 x1 x2 x3 x4 x5 n0 h0) 1 5 (T67.setTop (mkF m 100 #[.val (.int x0), .val (.long x1), .second, .val (.long x2), .second, .val (.long x3), .second, .val (.long x4), .second, .val (.long x5), .second] [(.int (2 : Int32)), (.ref a61), (.ref a61)]))
              refine own_Goes.step (fun tq kq => XT.lload X67.here hx rfl (hb hby d1_100) rfl kq) ?_
              show own_Goes p e below s (own_F1 Z x0 x1 x2 x3 x4 x5 n0 h0) 1 5 (T67.setTop (mkF m 102 #[.val (.int x0), .val (.long x1), .second, .val (.long x2), .second, .val (.long x3), .second, .val (.long x4), .second, .val (.long x5), .second] [(.long x3), (.int (2 : Int32)), (.ref a61), (.ref a61)]))
              obtain ⟨T72, h72, X72, e72, W72, st72⟩ := own_last X67 hx hZ e67 f68 (i := 2) rfl (by decide) (g := (mkF m 102 #[.val (.int x0), .val (.long x1), .second, .val (.long x2), .second, .val (.long x3), .second, .val (.long x4), .second, .val (.long x5), .second] [(.long x3), (.int (2 : Int32)), (.ref a61), (.ref a61)])) rfl rfl (hb hby d1_102)
              refine own_Goes.step st72 ?_
              have f73 : own_Ar Z h72 a61 .long 5 (fun uu => .long ((fun j => if j = 2 then x3 else (fun j => if j = 1 then x2 else (fun j => if j = 0 then x1 else (fun _ => (0 : Int64)) j) j) j) uu)) := (f68.set W72).congr fun j _ => by dsimp only; exact (apply_ite Value.long _ _ _).symm
              have K74 := K69.wr W72 (Or.inr Kh61)
              have N75 := Fr.snoc X72 N70 ga61
              have Z76 : n0 ≤ h72.size := Nat.le_trans Z71 (Keep.of_wr W72).1
              show own_Goes p e below s (own_F1 Z x0 x1 x2 x3 x4 x5 n0 h0) 1 5 (T72.setTop (mkF m 103 #[.val (.int x0), .val (.long x1), .second, .val (.long x2), .second, .val (.long x3), .second, .val (.long x4), .second, .val (.long x5), .second] [(.ref a61)]))
              refine own_Goes.step (fun tq kq => XS.dup X72.here hx rfl (hb hby d1_103) rfl rfl kq) ?_
              show own_Goes p e below s (own_F1 Z x0 x1 x2 x3 x4 x5 n0 h0) 1 5 (T72.setTop (mkF m 104 #[.val (.int x0), .val (.long x1), .second, .val (.long x2), .second, .val (.long x3), .second, .val (.long x4), .second, .val (.long x5), .second] [(.ref a61), (.ref a61)]))
              refine own_Goes.step (fun tq kq => XT.iconstV X72.here hx rfl (3 : Int32) (hb hby d1_104) (by decide) kq) ?_
              show own_Goes p e below s (own_F1 Z x0 x1 x2 x3 x4 x5 n0 h0) 1 5 (T72.setTop (mkF m 105 #[.val (.int x0), .val (.long x1), .second, .val (.long x2), .second, .val (.long x3), .second, .val (.long x4), .second, .val (.long x5), .second] [(.int (3 : Int32)), (.ref a61), (.ref a61)]))
              refine own_Goes.step (fun tq kq => XT.lload X72.here hx rfl (hb hby d1_105) rfl kq) ?_
              show own_Goes p e below s (own_F1 Z x0 x1 x2 x3 x4 x5 n0 h0) 1 5 (T72.setTop (mkF m 107 #[.val (.int x0), .val (.long x1), .second, .val (.long x2), .second, .val (.long x3), .second, .val (.long x4), .second, .val (.long x5), .second] [(.long x4), (.int (3 : Int32)), (.ref a61), (.ref a61)]))
              obtain ⟨T77, h77, X77, e77, W77, st77⟩ := own_last X72 hx hZ e72 f73 (i := 3) rfl (by decide) (g := (mkF m 107 #[.val (.int x0), .val (.long x1), .second, .val (.long x2), .second, .val (.long x3), .second, .val (.long x4), .second, .val (.long x5), .second] [(.long x4), (.int (3 : Int32)), (.ref a61), (.ref a61)])) rfl rfl (hb hby d1_107)
              refine own_Goes.step st77 ?_
              have f78 : own_Ar Z h77 a61 .long 5 (fun uu => .long ((fun j => if j = 3 then x4 else (fun j => if j = 2 then x3 else (fun j => if j = 1 then x2 else (fun j => if j = 0 then x1 else (fun _ => (0 : Int64)) j) j) j) j) uu)) := (f73.set W77).congr fun j _ => by dsimp only; exact (apply_ite Value.long _ _ _).symm
              have K79 := K74.wr W77 (Or.inr Kh61)
              have N80 := Fr.snoc X77 N75 ga61
              have Z81 : n0 ≤ h77.size := Nat.le_trans Z76 (Keep.of_wr W77).1
              show own_Goes p e below s (own_F1 Z x0 x1 x2 x3 x4 x5 n0 h0) 1 5 (T77.setTop (mkF m 108 #[.val (.int x0), .val (.long x1), .second, .val (.long x2), .second, .val (.long x3), .second, .val (.long x4), .second, .val (.long x5), .second] [(.ref a61)]))
              refine own_Goes.step (fun tq kq => XS.dup X77.here hx rfl (hb hby d1_108) rfl rfl kq) ?_
              show own_Goes p e below s (own_F1 Z x0 x1 x2 x3 x4 x5 n0 h0) 1 5 (T77.setTop (mkF m 109 #[.val (.int x0), .val (.long x1), .second, .val (.long x2), .second, .val (.long x3), .second, .val (.long x4), .second, .val (.long x5), .second] [(.ref a61), (.ref a61)]))
              refine own_Goes.step (fun tq kq => XT.iconstV X77.here hx rfl (4 : Int32) (hb hby d1_109) (by decide) kq) ?_
              show own_Goes p e below s (own_F1 Z x0 x1 x2 x3 x4 x5 n0 h0) 1 5 (T77.setTop (mkF m 110 #[.val (.int x0), .val (.long x1), .second, .val (.long x2), .second, .val (.long x3), .second, .val (.long x4), .second, .val (.long x5), .second] [(.int (4 : Int32)), (.ref a61), (.ref a61)]))
              refine own_Goes.step (fun tq kq => XT.lload X77.here hx rfl (hb hby d1_110) rfl kq) ?_
              show own_Goes p e below s (own_F1 Z x0 x1 x2 x3 x4 x5 n0 h0) 1 5 (T77.setTop (mkF m 112 #[.val (.int x0), .val (.long x1), .second, .val (.long x2), .second, .val (.long x3), .second, .val (.long x4), .second, .val (.long x5), .second] [(.long x5), (.int (4 : Int32)), (.ref a61), (.ref a61)]))
              obtain ⟨T82, h82, X82, e82, W82, st82⟩ := own_last X77 hx hZ e77 f78 (i := 4) rfl (by decide) (g := (mkF m 112 #[.val (.int x0), .val (.long x1), .second, .val (.long x2), .second, .val (.long x3), .second, .val (.long x4), .second, .val (.long x5), .second] [(.long x5), (.int (4 : Int32)), (.ref a61), (.ref a61)])) rfl rfl (hb hby d1_112)
              refine own_Goes.step st82 ?_
              have f83 : own_Ar Z h82 a61 .long 5 (fun uu => .long ((fun j => if j = 4 then x5 else (fun j => if j = 3 then x4 else (fun j => if j = 2 then x3 else (fun j => if j = 1 then x2 else (fun j => if j = 0 then x1 else (fun _ => (0 : Int64)) j) j) j) j) j) uu)) := (f78.set W82).congr fun j _ => by dsimp only; exact (apply_ite Value.long _ _ _).symm
              have K84 := K79.wr W82 (Or.inr Kh61)
              have N85 := Fr.snoc X82 N80 ga61
              have Z86 : n0 ≤ h82.size := Nat.le_trans Z81 (Keep.of_wr W82).1
              show own_Goes p e below s (own_F1 Z x0 x1 x2 x3 x4 x5 n0 h0) 1 5 (T82.setTop (mkF m 113 #[.val (.int x0), .val (.long x1), .second, .val (.long x2), .second, .val (.long x3), .second, .val (.long x4), .second, .val (.long x5), .second] [(.ref a61)]))
              refine own_endA X82 hx Bd.notSynchronized rfl Bd.returns rfl (hb hby d1_113) ?_ (by decide) (by decide)
              show own_F1 Z x0 x1 x2 x3 x4 x5 n0 h0 _ T82.heap _
              rw [e82]
              obtain rfl : x0 = (5 : Int32) := own_five hx0 hc1 hc3 hc10 hc22 hc39
              exact ⟨a61, rfl, N85, ga61, Kh61, K84, f83.congr (fun i hi => by match i, hi with | 0, _ => rfl | 1, _ => rfl | 2, _ => rfl | 3, _ => rfl | 4, _ => rfl | _ + 5, hh => exact absurd hh (by omega))⟩
  obtain ⟨t2, o2, q1, q2, q3, q4⟩ := hgo
  exact ⟨t2, o2, castTop (ef_1 m x0 x1 x2 x3 x4 x5) q1, q2, q3, q4⟩
theorem pn_0 : plainName "com/example/backtrail/backtrail/core/GraphMergeMergeFromPinLaw" = true := by first | (simp [plainName, overriddenIn]; done) | decide +kernel
theorem pd_0 : parseMethodDescriptor "(IJJJJJ)Z" = some ⟨[.int, .long, .long, .long, .long, .long], (some .boolean)⟩ := by decide +kernel
theorem ef_0 (m : MethodId) (x0 : Int32) (x1 : Int64) (x2 : Int64) (x3 : Int64) (x4 : Int64) (x5 : Int64) : entryFrame m #[(.int x0), (.long x1), (.long x2), (.long x3), (.long x4), (.long x5)] maxLocals = mkF m 0 #[.val (.int x0), .val (.long x1), .second, .val (.long x2), .second, .val (.long x3), .second, .val (.long x4), .second, .val (.long x5), .second, .unset, .unset, .unset, .unset, .unset, .unset, .unset, .unset, .unset, .unset, .unset, .unset, .unset, .unset, .unset, .unset] [] := by first | (simp [entryFrame, mkF, argsToLocals, Value.category, maxLocals]; done) | rfl
def own_f0_1 (x0 : Int32) (x1 : Int64) (x2 : Int64) (x3 : Int64) (x4 : Int64) (x5 : Int64) : Int64 := (if (0 : Int32) < ((x0 &&& (7 : Int32)) % (6 : Int32)) then (x1 &&& (8589934591 : Int64)) else (0 : Int64))
def own_f0_2 (x0 : Int32) (x1 : Int64) (x2 : Int64) (x3 : Int64) (x4 : Int64) (x5 : Int64) : Int64 := (if (1 : Int32) < ((x0 &&& (7 : Int32)) % (6 : Int32)) then (x2 &&& (8589934591 : Int64)) else (0 : Int64))
def own_f0_3 (x0 : Int32) (x1 : Int64) (x2 : Int64) (x3 : Int64) (x4 : Int64) (x5 : Int64) : Int64 := (if (2 : Int32) < ((x0 &&& (7 : Int32)) % (6 : Int32)) then (x3 &&& (8589934591 : Int64)) else (0 : Int64))
def own_f0_4 (x0 : Int32) (x1 : Int64) (x2 : Int64) (x3 : Int64) (x4 : Int64) (x5 : Int64) : Int64 := (if (3 : Int32) < ((x0 &&& (7 : Int32)) % (6 : Int32)) then (x4 &&& (8589934591 : Int64)) else (0 : Int64))
def own_f0_5 (x0 : Int32) (x1 : Int64) (x2 : Int64) (x3 : Int64) (x4 : Int64) (x5 : Int64) : Int64 := (if (4 : Int32) < ((x0 &&& (7 : Int32)) % (6 : Int32)) then (x5 &&& (8589934591 : Int64)) else (0 : Int64))
def own_f0_6 (x0 : Int32) (x1 : Int64) (x2 : Int64) (x3 : Int64) (x4 : Int64) (x5 : Int64) : Int32 := (own_mfr (own_w (own_f0_1 x0 x1 x2 x3 x4 x5) (own_f0_2 x0 x1 x2 x3 x4 x5) (own_f0_3 x0 x1 x2 x3 x4 x5) (own_f0_4 x0 x1 x2 x3 x4 x5) (own_f0_5 x0 x1 x2 x3 x4 x5)) (own_n x0))
def own_f0_7 (x0 : Int32) (x1 : Int64) (x2 : Int64) (x3 : Int64) (x4 : Int64) (x5 : Int64) : Nat → Int64 := fun j => if j = 0 then (own_f0_1 x0 x1 x2 x3 x4 x5) else (fun _ => (0 : Int64)) j
def own_f0_8 (x0 : Int32) (x1 : Int64) (x2 : Int64) (x3 : Int64) (x4 : Int64) (x5 : Int64) : Nat → Int64 := fun j => if j = 1 then (own_f0_2 x0 x1 x2 x3 x4 x5) else (own_f0_7 x0 x1 x2 x3 x4 x5) j
def own_f0_9 (x0 : Int32) (x1 : Int64) (x2 : Int64) (x3 : Int64) (x4 : Int64) (x5 : Int64) : Nat → Int64 := fun j => if j = 2 then (own_f0_3 x0 x1 x2 x3 x4 x5) else (own_f0_8 x0 x1 x2 x3 x4 x5) j
def own_f0_10 (x0 : Int32) (x1 : Int64) (x2 : Int64) (x3 : Int64) (x4 : Int64) (x5 : Int64) : Nat → Int64 := fun j => if j = 3 then (own_f0_4 x0 x1 x2 x3 x4 x5) else (own_f0_9 x0 x1 x2 x3 x4 x5) j
def own_f0_11 (x0 : Int32) (x1 : Int64) (x2 : Int64) (x3 : Int64) (x4 : Int64) (x5 : Int64) : Nat → Int64 := fun j => if j = 4 then (own_f0_5 x0 x1 x2 x3 x4 x5) else (own_f0_10 x0 x1 x2 x3 x4 x5) j
def own_f0_12 (x0 : Int32) (x1 : Int64) (x2 : Int64) (x3 : Int64) (x4 : Int64) (x5 : Int64) : Nat → Int64 := fun j => if j = 4 then (own_f0_5 x0 x1 x2 x3 x4 x5) else (fun _ => (0 : Int64)) j
def own_f0_13 (x0 : Int32) (x1 : Int64) (x2 : Int64) (x3 : Int64) (x4 : Int64) (x5 : Int64) : Nat → Int64 := fun j => if j = 3 then ((own_f0_4 x0 x1 x2 x3 x4 x5) + ((own_f0_12 x0 x1 x2 x3 x4 x5) 4)) else (own_f0_12 x0 x1 x2 x3 x4 x5) j
def own_f0_14 (x0 : Int32) (x1 : Int64) (x2 : Int64) (x3 : Int64) (x4 : Int64) (x5 : Int64) : Nat → Int64 := fun j => if j = 2 then ((own_f0_3 x0 x1 x2 x3 x4 x5) + ((own_f0_13 x0 x1 x2 x3 x4 x5) 3)) else (own_f0_13 x0 x1 x2 x3 x4 x5) j
def own_f0_15 (x0 : Int32) (x1 : Int64) (x2 : Int64) (x3 : Int64) (x4 : Int64) (x5 : Int64) : Nat → Int64 := fun j => if j = 1 then ((own_f0_2 x0 x1 x2 x3 x4 x5) + ((own_f0_14 x0 x1 x2 x3 x4 x5) 2)) else (own_f0_14 x0 x1 x2 x3 x4 x5) j
def own_f0_16 (x0 : Int32) (x1 : Int64) (x2 : Int64) (x3 : Int64) (x4 : Int64) (x5 : Int64) : Nat → Int64 := fun j => if j = 0 then ((own_f0_1 x0 x1 x2 x3 x4 x5) + ((own_f0_15 x0 x1 x2 x3 x4 x5) 1)) else (own_f0_15 x0 x1 x2 x3 x4 x5) j
def own_f0_17 (x0 : Int32) (x1 : Int64) (x2 : Int64) (x3 : Int64) (x4 : Int64) (x5 : Int64) : Int32 := (if (own_f3 (own_f0_6 x0 x1 x2 x3 x4 x5) ((x0 &&& (7 : Int32)) % (6 : Int32)) (4 : Int32) (own_f0_11 x0 x1 x2 x3 x4 x5) (own_f0_16 x0 x1 x2 x3 x4 x5) 3) = (0 : Int32) then (0 : Int32) else (1 : Int32))
def own_f0 (x0 : Int32) (x1 : Int64) (x2 : Int64) (x3 : Int64) (x4 : Int64) (x5 : Int64) : Int32 := (if ((x0 &&& (7 : Int32)) % (6 : Int32)) = (0 : Int32) then (if (own_f0_6 x0 x1 x2 x3 x4 x5) = (-1 : Int32) then (1 : Int32) else (0 : Int32)) else (if (own_f0_6 x0 x1 x2 x3 x4 x5) < (0 : Int32) then (0 : Int32) else (if (((x0 &&& (7 : Int32)) % (6 : Int32)) - (1 : Int32)) < (own_f0_6 x0 x1 x2 x3 x4 x5) then (0 : Int32) else (if (own_f3 (own_f0_6 x0 x1 x2 x3 x4 x5) ((x0 &&& (7 : Int32)) % (6 : Int32)) (1 : Int32) (own_f0_11 x0 x1 x2 x3 x4 x5) (own_f0_16 x0 x1 x2 x3 x4 x5) 0) = (0 : Int32) then (0 : Int32) else (if (own_f3 (own_f0_6 x0 x1 x2 x3 x4 x5) ((x0 &&& (7 : Int32)) % (6 : Int32)) (2 : Int32) (own_f0_11 x0 x1 x2 x3 x4 x5) (own_f0_16 x0 x1 x2 x3 x4 x5) 1) = (0 : Int32) then (0 : Int32) else (if (own_f3 (own_f0_6 x0 x1 x2 x3 x4 x5) ((x0 &&& (7 : Int32)) % (6 : Int32)) (3 : Int32) (own_f0_11 x0 x1 x2 x3 x4 x5) (own_f0_16 x0 x1 x2 x3 x4 x5) 2) = (0 : Int32) then (0 : Int32) else (if (own_f0_17 x0 x1 x2 x3 x4 x5) = (0 : Int32) then (0 : Int32) else (if (own_f0_6 x0 x1 x2 x3 x4 x5) = (0 : Int32) then (1 : Int32) else (if (own_f4 (own_f0_11 x0 x1 x2 x3 x4 x5) (own_f0_16 x0 x1 x2 x3 x4 x5) ((own_f0_6 x0 x1 x2 x3 x4 x5).toInt.toNat - 1)) = (0 : Int32) then (1 : Int32) else (0 : Int32))))))))))
def own_F0 (Z : State) (x0 : Int32) (x1 : Int64) (x2 : Int64) (x3 : Int64) (x4 : Int64) (x5 : Int64)  (n0 : Nat) (h0 : Heap) (v : Option Value) (h : Heap) (L : List Loc) : Prop := v = some (.int (own_f0 x0 x1 x2 x3 x4 x5)) ∧ Fr n0 L
set_option maxRecDepth 65536 in
set_option maxHeartbeats 40000000 in
theorem own_m0 (l : Launch) (Z : State) (a0 : Array Value) (hw : ∀ d ∈ tables_1, d.before a0 Z = true) (ws : List Jvm.Cond) (x0 : Int32) (x1 : Int64) (x2 : Int64) (x3 : Int64) (x4 : Int64) (x5 : Int64)  (n0 : Nat) (h0 : Heap) (Z0 : n0 ≤ h0.size)   :
    MetFree l x (head1 (Jvm.Cond.code x code maxLocals ret :: ws) room_1) (fun a U => a = #[(.int x0), (.long x1), (.long x2), (.long x3), (.long x4), (.long x5)] ∧ Z.Warmed39 U.vm ∧ U.heap = h0) (fun _ _ _ _ _ => True) (fun _ U o U' => ∃ v L, o = .returned v ∧ own_F0 Z x0 x1 x2 x3 x4 x5 n0 h0 v U'.heap L ∧ FrameEnd U o U' L room_1.cells room_1.slots) := by
  refine MetFree.of_bodySF (plainFor_of_name pn_0) hisR ?_
  intro p e s m args below meth c s₁ Bd hml0 hP hK
  obtain ⟨rfl, hZ, hh⟩ := hP
  have hx := Bd.exec
  have hby := Bd.bytes
  have hml : c.maxLocals = 27 := hml0
  have hown : s.vm.findClass "com/example/backtrail/backtrail/core/GraphMergeMergeFromPinLaw" = some m.cls := findClass_of_methodNamed Bd.named
  have hnm := (name_of_methodNamed Bd.named Bd.method).1
  have X0 : Stand p l e room_1 s m #[(.int x0), (.long x1), (.long x2), (.long x3), (.long x4), (.long x5)] below meth c s₁ [] 0 0 := Stand.of_body Bd
  have e0 : s₁.heap = h0 := by rw [← hh, Bd.state]; rfl
  have N0 := Fr.nil n0
  have K0 : Keep h0 h0 [] := Keep.refl h0 []
  have hgo : own_Goes p e below s (own_F0 Z x0 x1 x2 x3 x4 x5 n0 h0) room_1.cells room_1.slots (s₁.setTop (mkF m 0 #[.val (.int x0), .val (.long x1), .second, .val (.long x2), .second, .val (.long x3), .second, .val (.long x4), .second, .val (.long x5), .second, .unset, .unset, .unset, .unset, .unset, .unset, .unset, .unset, .unset, .unset, .unset, .unset, .unset, .unset, .unset, .unset] [])) := by
    refine own_Goes.step (fun tq kq => XS.iloadN X0.here hx rfl (hb hby at_0) rfl kq) ?_
    show own_Goes p e below s (own_F0 Z x0 x1 x2 x3 x4 x5 n0 h0) room_1.cells room_1.slots (s₁.setTop (mkF m 1 #[.val (.int x0), .val (.long x1), .second, .val (.long x2), .second, .val (.long x3), .second, .val (.long x4), .second, .val (.long x5), .second, .unset, .unset, .unset, .unset, .unset, .unset, .unset, .unset, .unset, .unset, .unset, .unset, .unset, .unset, .unset, .unset] [(.int x0)]))
    refine own_Goes.step (fun tq kq => XT.bipushV X0.here hx rfl (7 : Int32) (hb hby at_1) (by decide) kq) ?_
    show own_Goes p e below s (own_F0 Z x0 x1 x2 x3 x4 x5 n0 h0) room_1.cells room_1.slots (s₁.setTop (mkF m 3 #[.val (.int x0), .val (.long x1), .second, .val (.long x2), .second, .val (.long x3), .second, .val (.long x4), .second, .val (.long x5), .second, .unset, .unset, .unset, .unset, .unset, .unset, .unset, .unset, .unset, .unset, .unset, .unset, .unset, .unset, .unset, .unset] [(.int (7 : Int32)), (.int x0)]))
    refine own_Goes.step (fun tq kq => XS.iand X0.here hx rfl (hb hby at_3) rfl kq) ?_
    show own_Goes p e below s (own_F0 Z x0 x1 x2 x3 x4 x5 n0 h0) room_1.cells room_1.slots (s₁.setTop (mkF m 4 #[.val (.int x0), .val (.long x1), .second, .val (.long x2), .second, .val (.long x3), .second, .val (.long x4), .second, .val (.long x5), .second, .unset, .unset, .unset, .unset, .unset, .unset, .unset, .unset, .unset, .unset, .unset, .unset, .unset, .unset, .unset, .unset] [(.int (x0 &&& (7 : Int32)))]))
    refine own_Goes.step (fun tq kq => XT.bipushV X0.here hx rfl (6 : Int32) (hb hby at_4) (by decide) kq) ?_
    show own_Goes p e below s (own_F0 Z x0 x1 x2 x3 x4 x5 n0 h0) room_1.cells room_1.slots (s₁.setTop (mkF m 6 #[.val (.int x0), .val (.long x1), .second, .val (.long x2), .second, .val (.long x3), .second, .val (.long x4), .second, .val (.long x5), .second, .unset, .unset, .unset, .unset, .unset, .unset, .unset, .unset, .unset, .unset, .unset, .unset, .unset, .unset, .unset, .unset] [(.int (6 : Int32)), (.int (x0 &&& (7 : Int32)))]))
    refine own_Goes.step (fun tq kq => iremM X0 hx rfl (hb hby at_6) rfl (by decide) kq) ?_
    show own_Goes p e below s (own_F0 Z x0 x1 x2 x3 x4 x5 n0 h0) room_1.cells room_1.slots (s₁.setTop (mkF m 7 #[.val (.int x0), .val (.long x1), .second, .val (.long x2), .second, .val (.long x3), .second, .val (.long x4), .second, .val (.long x5), .second, .unset, .unset, .unset, .unset, .unset, .unset, .unset, .unset, .unset, .unset, .unset, .unset, .unset, .unset, .unset, .unset] [(.int ((x0 &&& (7 : Int32)) % (6 : Int32)))]))
    refine own_Goes.step (fun tq kq => XS.istore X0.here hx rfl (hb hby at_7) rfl (l' := #[.val (.int x0), .val (.long x1), .second, .val (.long x2), .second, .val (.long x3), .second, .val (.long x4), .second, .val (.long x5), .second, .val (.int ((x0 &&& (7 : Int32)) % (6 : Int32))), .unset, .unset, .unset, .unset, .unset, .unset, .unset, .unset, .unset, .unset, .unset, .unset, .unset, .unset, .unset]) rfl kq) ?_
    show own_Goes p e below s (own_F0 Z x0 x1 x2 x3 x4 x5 n0 h0) room_1.cells room_1.slots (s₁.setTop (mkF m 9 #[.val (.int x0), .val (.long x1), .second, .val (.long x2), .second, .val (.long x3), .second, .val (.long x4), .second, .val (.long x5), .second, .val (.int ((x0 &&& (7 : Int32)) % (6 : Int32))), .unset, .unset, .unset, .unset, .unset, .unset, .unset, .unset, .unset, .unset, .unset, .unset, .unset, .unset, .unset] []))
    refine own_Goes.step (fun tq kq => XS.iload X0.here hx rfl (hb hby at_9) rfl kq) ?_
    show own_Goes p e below s (own_F0 Z x0 x1 x2 x3 x4 x5 n0 h0) room_1.cells room_1.slots (s₁.setTop (mkF m 11 #[.val (.int x0), .val (.long x1), .second, .val (.long x2), .second, .val (.long x3), .second, .val (.long x4), .second, .val (.long x5), .second, .val (.int ((x0 &&& (7 : Int32)) % (6 : Int32))), .unset, .unset, .unset, .unset, .unset, .unset, .unset, .unset, .unset, .unset, .unset, .unset, .unset, .unset, .unset] [(.int ((x0 &&& (7 : Int32)) % (6 : Int32)))]))
    have J106 : own_Goes p e below s (own_F0 Z x0 x1 x2 x3 x4 x5 n0 h0) room_1.cells room_1.slots (s₁.setTop (mkF m 23 #[.val (.int x0), .val (.long x1), .second, .val (.long x2), .second, .val (.long x3), .second, .val (.long x4), .second, .val (.long x5), .second, .val (.int ((x0 &&& (7 : Int32)) % (6 : Int32))), .unset, .unset, .unset, .unset, .unset, .unset, .unset, .unset, .unset, .unset, .unset, .unset, .unset, .unset, .unset] [(.long (own_f0_1 x0 x1 x2 x3 x4 x5))])) := by
      refine own_Goes.step (fun tq kq => XT.lstore X0.here hx rfl (hb hby at_23) rfl (l' := #[.val (.int x0), .val (.long x1), .second, .val (.long x2), .second, .val (.long x3), .second, .val (.long x4), .second, .val (.long x5), .second, .val (.int ((x0 &&& (7 : Int32)) % (6 : Int32))), .val (.long (own_f0_1 x0 x1 x2 x3 x4 x5)), .second, .unset, .unset, .unset, .unset, .unset, .unset, .unset, .unset, .unset, .unset, .unset, .unset, .unset]) rfl kq) ?_
      show own_Goes p e below s (own_F0 Z x0 x1 x2 x3 x4 x5 n0 h0) room_1.cells room_1.slots (s₁.setTop (mkF m 25 #[.val (.int x0), .val (.long x1), .second, .val (.long x2), .second, .val (.long x3), .second, .val (.long x4), .second, .val (.long x5), .second, .val (.int ((x0 &&& (7 : Int32)) % (6 : Int32))), .val (.long (own_f0_1 x0 x1 x2 x3 x4 x5)), .second, .unset, .unset, .unset, .unset, .unset, .unset, .unset, .unset, .unset, .unset, .unset, .unset, .unset] []))
      refine own_Goes.step (fun tq kq => XS.iload X0.here hx rfl (hb hby at_25) rfl kq) ?_
      show own_Goes p e below s (own_F0 Z x0 x1 x2 x3 x4 x5 n0 h0) room_1.cells room_1.slots (s₁.setTop (mkF m 27 #[.val (.int x0), .val (.long x1), .second, .val (.long x2), .second, .val (.long x3), .second, .val (.long x4), .second, .val (.long x5), .second, .val (.int ((x0 &&& (7 : Int32)) % (6 : Int32))), .val (.long (own_f0_1 x0 x1 x2 x3 x4 x5)), .second, .unset, .unset, .unset, .unset, .unset, .unset, .unset, .unset, .unset, .unset, .unset, .unset, .unset] [(.int ((x0 &&& (7 : Int32)) % (6 : Int32)))]))
      refine own_Goes.step (fun tq kq => XT.iconstV X0.here hx rfl (1 : Int32) (hb hby at_27) (by decide) kq) ?_
      show own_Goes p e below s (own_F0 Z x0 x1 x2 x3 x4 x5 n0 h0) room_1.cells room_1.slots (s₁.setTop (mkF m 28 #[.val (.int x0), .val (.long x1), .second, .val (.long x2), .second, .val (.long x3), .second, .val (.long x4), .second, .val (.long x5), .second, .val (.int ((x0 &&& (7 : Int32)) % (6 : Int32))), .val (.long (own_f0_1 x0 x1 x2 x3 x4 x5)), .second, .unset, .unset, .unset, .unset, .unset, .unset, .unset, .unset, .unset, .unset, .unset, .unset, .unset] [(.int (1 : Int32)), (.int ((x0 &&& (7 : Int32)) % (6 : Int32)))]))
      have J105 : own_Goes p e below s (own_F0 Z x0 x1 x2 x3 x4 x5 n0 h0) room_1.cells room_1.slots (s₁.setTop (mkF m 40 #[.val (.int x0), .val (.long x1), .second, .val (.long x2), .second, .val (.long x3), .second, .val (.long x4), .second, .val (.long x5), .second, .val (.int ((x0 &&& (7 : Int32)) % (6 : Int32))), .val (.long (own_f0_1 x0 x1 x2 x3 x4 x5)), .second, .unset, .unset, .unset, .unset, .unset, .unset, .unset, .unset, .unset, .unset, .unset, .unset, .unset] [(.long (own_f0_2 x0 x1 x2 x3 x4 x5))])) := by
        refine own_Goes.step (fun tq kq => XT.lstore X0.here hx rfl (hb hby at_40) rfl (l' := #[.val (.int x0), .val (.long x1), .second, .val (.long x2), .second, .val (.long x3), .second, .val (.long x4), .second, .val (.long x5), .second, .val (.int ((x0 &&& (7 : Int32)) % (6 : Int32))), .val (.long (own_f0_1 x0 x1 x2 x3 x4 x5)), .second, .val (.long (own_f0_2 x0 x1 x2 x3 x4 x5)), .second, .unset, .unset, .unset, .unset, .unset, .unset, .unset, .unset, .unset, .unset, .unset]) rfl kq) ?_
        show own_Goes p e below s (own_F0 Z x0 x1 x2 x3 x4 x5 n0 h0) room_1.cells room_1.slots (s₁.setTop (mkF m 42 #[.val (.int x0), .val (.long x1), .second, .val (.long x2), .second, .val (.long x3), .second, .val (.long x4), .second, .val (.long x5), .second, .val (.int ((x0 &&& (7 : Int32)) % (6 : Int32))), .val (.long (own_f0_1 x0 x1 x2 x3 x4 x5)), .second, .val (.long (own_f0_2 x0 x1 x2 x3 x4 x5)), .second, .unset, .unset, .unset, .unset, .unset, .unset, .unset, .unset, .unset, .unset, .unset] []))
        refine own_Goes.step (fun tq kq => XS.iload X0.here hx rfl (hb hby at_42) rfl kq) ?_
        show own_Goes p e below s (own_F0 Z x0 x1 x2 x3 x4 x5 n0 h0) room_1.cells room_1.slots (s₁.setTop (mkF m 44 #[.val (.int x0), .val (.long x1), .second, .val (.long x2), .second, .val (.long x3), .second, .val (.long x4), .second, .val (.long x5), .second, .val (.int ((x0 &&& (7 : Int32)) % (6 : Int32))), .val (.long (own_f0_1 x0 x1 x2 x3 x4 x5)), .second, .val (.long (own_f0_2 x0 x1 x2 x3 x4 x5)), .second, .unset, .unset, .unset, .unset, .unset, .unset, .unset, .unset, .unset, .unset, .unset] [(.int ((x0 &&& (7 : Int32)) % (6 : Int32)))]))
        refine own_Goes.step (fun tq kq => XT.iconstV X0.here hx rfl (2 : Int32) (hb hby at_44) (by decide) kq) ?_
        show own_Goes p e below s (own_F0 Z x0 x1 x2 x3 x4 x5 n0 h0) room_1.cells room_1.slots (s₁.setTop (mkF m 45 #[.val (.int x0), .val (.long x1), .second, .val (.long x2), .second, .val (.long x3), .second, .val (.long x4), .second, .val (.long x5), .second, .val (.int ((x0 &&& (7 : Int32)) % (6 : Int32))), .val (.long (own_f0_1 x0 x1 x2 x3 x4 x5)), .second, .val (.long (own_f0_2 x0 x1 x2 x3 x4 x5)), .second, .unset, .unset, .unset, .unset, .unset, .unset, .unset, .unset, .unset, .unset, .unset] [(.int (2 : Int32)), (.int ((x0 &&& (7 : Int32)) % (6 : Int32)))]))
        have J104 : own_Goes p e below s (own_F0 Z x0 x1 x2 x3 x4 x5 n0 h0) room_1.cells room_1.slots (s₁.setTop (mkF m 58 #[.val (.int x0), .val (.long x1), .second, .val (.long x2), .second, .val (.long x3), .second, .val (.long x4), .second, .val (.long x5), .second, .val (.int ((x0 &&& (7 : Int32)) % (6 : Int32))), .val (.long (own_f0_1 x0 x1 x2 x3 x4 x5)), .second, .val (.long (own_f0_2 x0 x1 x2 x3 x4 x5)), .second, .unset, .unset, .unset, .unset, .unset, .unset, .unset, .unset, .unset, .unset, .unset] [(.long (own_f0_3 x0 x1 x2 x3 x4 x5))])) := by
          refine own_Goes.step (fun tq kq => XT.lstore X0.here hx rfl (hb hby at_58) rfl (l' := #[.val (.int x0), .val (.long x1), .second, .val (.long x2), .second, .val (.long x3), .second, .val (.long x4), .second, .val (.long x5), .second, .val (.int ((x0 &&& (7 : Int32)) % (6 : Int32))), .val (.long (own_f0_1 x0 x1 x2 x3 x4 x5)), .second, .val (.long (own_f0_2 x0 x1 x2 x3 x4 x5)), .second, .val (.long (own_f0_3 x0 x1 x2 x3 x4 x5)), .second, .unset, .unset, .unset, .unset, .unset, .unset, .unset, .unset, .unset]) rfl kq) ?_
          show own_Goes p e below s (own_F0 Z x0 x1 x2 x3 x4 x5 n0 h0) room_1.cells room_1.slots (s₁.setTop (mkF m 60 #[.val (.int x0), .val (.long x1), .second, .val (.long x2), .second, .val (.long x3), .second, .val (.long x4), .second, .val (.long x5), .second, .val (.int ((x0 &&& (7 : Int32)) % (6 : Int32))), .val (.long (own_f0_1 x0 x1 x2 x3 x4 x5)), .second, .val (.long (own_f0_2 x0 x1 x2 x3 x4 x5)), .second, .val (.long (own_f0_3 x0 x1 x2 x3 x4 x5)), .second, .unset, .unset, .unset, .unset, .unset, .unset, .unset, .unset, .unset] []))
          refine own_Goes.step (fun tq kq => XS.iload X0.here hx rfl (hb hby at_60) rfl kq) ?_
          show own_Goes p e below s (own_F0 Z x0 x1 x2 x3 x4 x5 n0 h0) room_1.cells room_1.slots (s₁.setTop (mkF m 62 #[.val (.int x0), .val (.long x1), .second, .val (.long x2), .second, .val (.long x3), .second, .val (.long x4), .second, .val (.long x5), .second, .val (.int ((x0 &&& (7 : Int32)) % (6 : Int32))), .val (.long (own_f0_1 x0 x1 x2 x3 x4 x5)), .second, .val (.long (own_f0_2 x0 x1 x2 x3 x4 x5)), .second, .val (.long (own_f0_3 x0 x1 x2 x3 x4 x5)), .second, .unset, .unset, .unset, .unset, .unset, .unset, .unset, .unset, .unset] [(.int ((x0 &&& (7 : Int32)) % (6 : Int32)))]))
          refine own_Goes.step (fun tq kq => XT.iconstV X0.here hx rfl (3 : Int32) (hb hby at_62) (by decide) kq) ?_
          show own_Goes p e below s (own_F0 Z x0 x1 x2 x3 x4 x5 n0 h0) room_1.cells room_1.slots (s₁.setTop (mkF m 63 #[.val (.int x0), .val (.long x1), .second, .val (.long x2), .second, .val (.long x3), .second, .val (.long x4), .second, .val (.long x5), .second, .val (.int ((x0 &&& (7 : Int32)) % (6 : Int32))), .val (.long (own_f0_1 x0 x1 x2 x3 x4 x5)), .second, .val (.long (own_f0_2 x0 x1 x2 x3 x4 x5)), .second, .val (.long (own_f0_3 x0 x1 x2 x3 x4 x5)), .second, .unset, .unset, .unset, .unset, .unset, .unset, .unset, .unset, .unset] [(.int (3 : Int32)), (.int ((x0 &&& (7 : Int32)) % (6 : Int32)))]))
          have J103 : own_Goes p e below s (own_F0 Z x0 x1 x2 x3 x4 x5 n0 h0) room_1.cells room_1.slots (s₁.setTop (mkF m 76 #[.val (.int x0), .val (.long x1), .second, .val (.long x2), .second, .val (.long x3), .second, .val (.long x4), .second, .val (.long x5), .second, .val (.int ((x0 &&& (7 : Int32)) % (6 : Int32))), .val (.long (own_f0_1 x0 x1 x2 x3 x4 x5)), .second, .val (.long (own_f0_2 x0 x1 x2 x3 x4 x5)), .second, .val (.long (own_f0_3 x0 x1 x2 x3 x4 x5)), .second, .unset, .unset, .unset, .unset, .unset, .unset, .unset, .unset, .unset] [(.long (own_f0_4 x0 x1 x2 x3 x4 x5))])) := by
            refine own_Goes.step (fun tq kq => XT.lstore X0.here hx rfl (hb hby at_76) rfl (l' := #[.val (.int x0), .val (.long x1), .second, .val (.long x2), .second, .val (.long x3), .second, .val (.long x4), .second, .val (.long x5), .second, .val (.int ((x0 &&& (7 : Int32)) % (6 : Int32))), .val (.long (own_f0_1 x0 x1 x2 x3 x4 x5)), .second, .val (.long (own_f0_2 x0 x1 x2 x3 x4 x5)), .second, .val (.long (own_f0_3 x0 x1 x2 x3 x4 x5)), .second, .val (.long (own_f0_4 x0 x1 x2 x3 x4 x5)), .second, .unset, .unset, .unset, .unset, .unset, .unset, .unset]) rfl kq) ?_
            show own_Goes p e below s (own_F0 Z x0 x1 x2 x3 x4 x5 n0 h0) room_1.cells room_1.slots (s₁.setTop (mkF m 78 #[.val (.int x0), .val (.long x1), .second, .val (.long x2), .second, .val (.long x3), .second, .val (.long x4), .second, .val (.long x5), .second, .val (.int ((x0 &&& (7 : Int32)) % (6 : Int32))), .val (.long (own_f0_1 x0 x1 x2 x3 x4 x5)), .second, .val (.long (own_f0_2 x0 x1 x2 x3 x4 x5)), .second, .val (.long (own_f0_3 x0 x1 x2 x3 x4 x5)), .second, .val (.long (own_f0_4 x0 x1 x2 x3 x4 x5)), .second, .unset, .unset, .unset, .unset, .unset, .unset, .unset] []))
            refine own_Goes.step (fun tq kq => XS.iload X0.here hx rfl (hb hby at_78) rfl kq) ?_
            show own_Goes p e below s (own_F0 Z x0 x1 x2 x3 x4 x5 n0 h0) room_1.cells room_1.slots (s₁.setTop (mkF m 80 #[.val (.int x0), .val (.long x1), .second, .val (.long x2), .second, .val (.long x3), .second, .val (.long x4), .second, .val (.long x5), .second, .val (.int ((x0 &&& (7 : Int32)) % (6 : Int32))), .val (.long (own_f0_1 x0 x1 x2 x3 x4 x5)), .second, .val (.long (own_f0_2 x0 x1 x2 x3 x4 x5)), .second, .val (.long (own_f0_3 x0 x1 x2 x3 x4 x5)), .second, .val (.long (own_f0_4 x0 x1 x2 x3 x4 x5)), .second, .unset, .unset, .unset, .unset, .unset, .unset, .unset] [(.int ((x0 &&& (7 : Int32)) % (6 : Int32)))]))
            refine own_Goes.step (fun tq kq => XT.iconstV X0.here hx rfl (4 : Int32) (hb hby at_80) (by decide) kq) ?_
            show own_Goes p e below s (own_F0 Z x0 x1 x2 x3 x4 x5 n0 h0) room_1.cells room_1.slots (s₁.setTop (mkF m 81 #[.val (.int x0), .val (.long x1), .second, .val (.long x2), .second, .val (.long x3), .second, .val (.long x4), .second, .val (.long x5), .second, .val (.int ((x0 &&& (7 : Int32)) % (6 : Int32))), .val (.long (own_f0_1 x0 x1 x2 x3 x4 x5)), .second, .val (.long (own_f0_2 x0 x1 x2 x3 x4 x5)), .second, .val (.long (own_f0_3 x0 x1 x2 x3 x4 x5)), .second, .val (.long (own_f0_4 x0 x1 x2 x3 x4 x5)), .second, .unset, .unset, .unset, .unset, .unset, .unset, .unset] [(.int (4 : Int32)), (.int ((x0 &&& (7 : Int32)) % (6 : Int32)))]))
            have J102 : own_Goes p e below s (own_F0 Z x0 x1 x2 x3 x4 x5 n0 h0) room_1.cells room_1.slots (s₁.setTop (mkF m 94 #[.val (.int x0), .val (.long x1), .second, .val (.long x2), .second, .val (.long x3), .second, .val (.long x4), .second, .val (.long x5), .second, .val (.int ((x0 &&& (7 : Int32)) % (6 : Int32))), .val (.long (own_f0_1 x0 x1 x2 x3 x4 x5)), .second, .val (.long (own_f0_2 x0 x1 x2 x3 x4 x5)), .second, .val (.long (own_f0_3 x0 x1 x2 x3 x4 x5)), .second, .val (.long (own_f0_4 x0 x1 x2 x3 x4 x5)), .second, .unset, .unset, .unset, .unset, .unset, .unset, .unset] [(.long (own_f0_5 x0 x1 x2 x3 x4 x5))])) := by
              refine own_Goes.step (fun tq kq => XT.lstore X0.here hx rfl (hb hby at_94) rfl (l' := #[.val (.int x0), .val (.long x1), .second, .val (.long x2), .second, .val (.long x3), .second, .val (.long x4), .second, .val (.long x5), .second, .val (.int ((x0 &&& (7 : Int32)) % (6 : Int32))), .val (.long (own_f0_1 x0 x1 x2 x3 x4 x5)), .second, .val (.long (own_f0_2 x0 x1 x2 x3 x4 x5)), .second, .val (.long (own_f0_3 x0 x1 x2 x3 x4 x5)), .second, .val (.long (own_f0_4 x0 x1 x2 x3 x4 x5)), .second, .val (.long (own_f0_5 x0 x1 x2 x3 x4 x5)), .second, .unset, .unset, .unset, .unset, .unset]) rfl kq) ?_
              show own_Goes p e below s (own_F0 Z x0 x1 x2 x3 x4 x5 n0 h0) room_1.cells room_1.slots (s₁.setTop (mkF m 96 #[.val (.int x0), .val (.long x1), .second, .val (.long x2), .second, .val (.long x3), .second, .val (.long x4), .second, .val (.long x5), .second, .val (.int ((x0 &&& (7 : Int32)) % (6 : Int32))), .val (.long (own_f0_1 x0 x1 x2 x3 x4 x5)), .second, .val (.long (own_f0_2 x0 x1 x2 x3 x4 x5)), .second, .val (.long (own_f0_3 x0 x1 x2 x3 x4 x5)), .second, .val (.long (own_f0_4 x0 x1 x2 x3 x4 x5)), .second, .val (.long (own_f0_5 x0 x1 x2 x3 x4 x5)), .second, .unset, .unset, .unset, .unset, .unset] []))
              refine own_Goes.step (fun tq kq => XS.iload X0.here hx rfl (hb hby at_96) rfl kq) ?_
              show own_Goes p e below s (own_F0 Z x0 x1 x2 x3 x4 x5 n0 h0) room_1.cells room_1.slots (s₁.setTop (mkF m 98 #[.val (.int x0), .val (.long x1), .second, .val (.long x2), .second, .val (.long x3), .second, .val (.long x4), .second, .val (.long x5), .second, .val (.int ((x0 &&& (7 : Int32)) % (6 : Int32))), .val (.long (own_f0_1 x0 x1 x2 x3 x4 x5)), .second, .val (.long (own_f0_2 x0 x1 x2 x3 x4 x5)), .second, .val (.long (own_f0_3 x0 x1 x2 x3 x4 x5)), .second, .val (.long (own_f0_4 x0 x1 x2 x3 x4 x5)), .second, .val (.long (own_f0_5 x0 x1 x2 x3 x4 x5)), .second, .unset, .unset, .unset, .unset, .unset] [(.int ((x0 &&& (7 : Int32)) % (6 : Int32)))]))
              refine own_Goes.step (fun tq kq => XT.lload X0.here hx rfl (hb hby at_98) rfl kq) ?_
              show own_Goes p e below s (own_F0 Z x0 x1 x2 x3 x4 x5 n0 h0) room_1.cells room_1.slots (s₁.setTop (mkF m 100 #[.val (.int x0), .val (.long x1), .second, .val (.long x2), .second, .val (.long x3), .second, .val (.long x4), .second, .val (.long x5), .second, .val (.int ((x0 &&& (7 : Int32)) % (6 : Int32))), .val (.long (own_f0_1 x0 x1 x2 x3 x4 x5)), .second, .val (.long (own_f0_2 x0 x1 x2 x3 x4 x5)), .second, .val (.long (own_f0_3 x0 x1 x2 x3 x4 x5)), .second, .val (.long (own_f0_4 x0 x1 x2 x3 x4 x5)), .second, .val (.long (own_f0_5 x0 x1 x2 x3 x4 x5)), .second, .unset, .unset, .unset, .unset, .unset] [(.long (own_f0_1 x0 x1 x2 x3 x4 x5)), (.int ((x0 &&& (7 : Int32)) % (6 : Int32)))]))
              refine own_Goes.step (fun tq kq => XT.lload X0.here hx rfl (hb hby at_100) rfl kq) ?_
              show own_Goes p e below s (own_F0 Z x0 x1 x2 x3 x4 x5 n0 h0) room_1.cells room_1.slots (s₁.setTop (mkF m 102 #[.val (.int x0), .val (.long x1), .second, .val (.long x2), .second, .val (.long x3), .second, .val (.long x4), .second, .val (.long x5), .second, .val (.int ((x0 &&& (7 : Int32)) % (6 : Int32))), .val (.long (own_f0_1 x0 x1 x2 x3 x4 x5)), .second, .val (.long (own_f0_2 x0 x1 x2 x3 x4 x5)), .second, .val (.long (own_f0_3 x0 x1 x2 x3 x4 x5)), .second, .val (.long (own_f0_4 x0 x1 x2 x3 x4 x5)), .second, .val (.long (own_f0_5 x0 x1 x2 x3 x4 x5)), .second, .unset, .unset, .unset, .unset, .unset] [(.long (own_f0_2 x0 x1 x2 x3 x4 x5)), (.long (own_f0_1 x0 x1 x2 x3 x4 x5)), (.int ((x0 &&& (7 : Int32)) % (6 : Int32)))]))
              refine own_Goes.step (fun tq kq => XT.lload X0.here hx rfl (hb hby at_102) rfl kq) ?_
              show own_Goes p e below s (own_F0 Z x0 x1 x2 x3 x4 x5 n0 h0) room_1.cells room_1.slots (s₁.setTop (mkF m 104 #[.val (.int x0), .val (.long x1), .second, .val (.long x2), .second, .val (.long x3), .second, .val (.long x4), .second, .val (.long x5), .second, .val (.int ((x0 &&& (7 : Int32)) % (6 : Int32))), .val (.long (own_f0_1 x0 x1 x2 x3 x4 x5)), .second, .val (.long (own_f0_2 x0 x1 x2 x3 x4 x5)), .second, .val (.long (own_f0_3 x0 x1 x2 x3 x4 x5)), .second, .val (.long (own_f0_4 x0 x1 x2 x3 x4 x5)), .second, .val (.long (own_f0_5 x0 x1 x2 x3 x4 x5)), .second, .unset, .unset, .unset, .unset, .unset] [(.long (own_f0_3 x0 x1 x2 x3 x4 x5)), (.long (own_f0_2 x0 x1 x2 x3 x4 x5)), (.long (own_f0_1 x0 x1 x2 x3 x4 x5)), (.int ((x0 &&& (7 : Int32)) % (6 : Int32)))]))
              refine own_Goes.step (fun tq kq => XT.lload X0.here hx rfl (hb hby at_104) rfl kq) ?_
              show own_Goes p e below s (own_F0 Z x0 x1 x2 x3 x4 x5 n0 h0) room_1.cells room_1.slots (s₁.setTop (mkF m 106 #[.val (.int x0), .val (.long x1), .second, .val (.long x2), .second, .val (.long x3), .second, .val (.long x4), .second, .val (.long x5), .second, .val (.int ((x0 &&& (7 : Int32)) % (6 : Int32))), .val (.long (own_f0_1 x0 x1 x2 x3 x4 x5)), .second, .val (.long (own_f0_2 x0 x1 x2 x3 x4 x5)), .second, .val (.long (own_f0_3 x0 x1 x2 x3 x4 x5)), .second, .val (.long (own_f0_4 x0 x1 x2 x3 x4 x5)), .second, .val (.long (own_f0_5 x0 x1 x2 x3 x4 x5)), .second, .unset, .unset, .unset, .unset, .unset] [(.long (own_f0_4 x0 x1 x2 x3 x4 x5)), (.long (own_f0_3 x0 x1 x2 x3 x4 x5)), (.long (own_f0_2 x0 x1 x2 x3 x4 x5)), (.long (own_f0_1 x0 x1 x2 x3 x4 x5)), (.int ((x0 &&& (7 : Int32)) % (6 : Int32)))]))
              refine own_Goes.step (fun tq kq => XT.lload X0.here hx rfl (hb hby at_106) rfl kq) ?_
              show own_Goes p e below s (own_F0 Z x0 x1 x2 x3 x4 x5 n0 h0) room_1.cells room_1.slots (s₁.setTop (mkF m 108 #[.val (.int x0), .val (.long x1), .second, .val (.long x2), .second, .val (.long x3), .second, .val (.long x4), .second, .val (.long x5), .second, .val (.int ((x0 &&& (7 : Int32)) % (6 : Int32))), .val (.long (own_f0_1 x0 x1 x2 x3 x4 x5)), .second, .val (.long (own_f0_2 x0 x1 x2 x3 x4 x5)), .second, .val (.long (own_f0_3 x0 x1 x2 x3 x4 x5)), .second, .val (.long (own_f0_4 x0 x1 x2 x3 x4 x5)), .second, .val (.long (own_f0_5 x0 x1 x2 x3 x4 x5)), .second, .unset, .unset, .unset, .unset, .unset] [(.long (own_f0_5 x0 x1 x2 x3 x4 x5)), (.long (own_f0_4 x0 x1 x2 x3 x4 x5)), (.long (own_f0_3 x0 x1 x2 x3 x4 x5)), (.long (own_f0_2 x0 x1 x2 x3 x4 x5)), (.long (own_f0_1 x0 x1 x2 x3 x4 x5)), (.int ((x0 &&& (7 : Int32)) % (6 : Int32)))]))
              obtain ⟨w6, T6, L6, q6, Y6, st6⟩ := own_stat X0 hx hZ e0 hown (hw _ (List.mem_of_getElem? (i := 0) rfl)) (hw _ (List.mem_of_getElem? (i := 1) rfl)) (hw _ (List.mem_of_getElem? (i := 2) rfl)) (hw _ (List.mem_of_getElem? (i := 3) rfl)) (by decide) (own_m1 l Z a0 hw [] ((x0 &&& (7 : Int32)) % (6 : Int32)) (own_f0_1 x0 x1 x2 x3 x4 x5) (own_f0_2 x0 x1 x2 x3 x4 x5) (own_f0_3 x0 x1 x2 x3 x4 x5) (own_f0_4 x0 x1 x2 x3 x4 x5) (own_f0_5 x0 x1 x2 x3 x4 x5) n0 h0 Z0 (own_nb x0)) (by decide) (W := 0) (by decide) (by decide) (by decide) (g := (mkF m 108 #[.val (.int x0), .val (.long x1), .second, .val (.long x2), .second, .val (.long x3), .second, .val (.long x4), .second, .val (.long x5), .second, .val (.int ((x0 &&& (7 : Int32)) % (6 : Int32))), .val (.long (own_f0_1 x0 x1 x2 x3 x4 x5)), .second, .val (.long (own_f0_2 x0 x1 x2 x3 x4 x5)), .second, .val (.long (own_f0_3 x0 x1 x2 x3 x4 x5)), .second, .val (.long (own_f0_4 x0 x1 x2 x3 x4 x5)), .second, .val (.long (own_f0_5 x0 x1 x2 x3 x4 x5)), .second, .unset, .unset, .unset, .unset, .unset] [(.long (own_f0_5 x0 x1 x2 x3 x4 x5)), (.long (own_f0_4 x0 x1 x2 x3 x4 x5)), (.long (own_f0_3 x0 x1 x2 x3 x4 x5)), (.long (own_f0_2 x0 x1 x2 x3 x4 x5)), (.long (own_f0_1 x0 x1 x2 x3 x4 x5)), (.int ((x0 &&& (7 : Int32)) % (6 : Int32)))])) rfl (by rw [hml]; rfl) (argsL := [(.int ((x0 &&& (7 : Int32)) % (6 : Int32))), (.long (own_f0_1 x0 x1 x2 x3 x4 x5)), (.long (own_f0_2 x0 x1 x2 x3 x4 x5)), (.long (own_f0_3 x0 x1 x2 x3 x4 x5)), (.long (own_f0_4 x0 x1 x2 x3 x4 x5)), (.long (own_f0_5 x0 x1 x2 x3 x4 x5))]) (rest := []) (lenOf pd_1 rfl) rfl (by show 2 * 0 + _ ≤ _; exact Nat.le_of_eq rfl) (hb hby at_108)
              obtain ⟨b6, rfl, N6, ga6, gk6, K6, r6⟩ := q6
              have Nn6 := Fr.app N0 N6
              have Kn6 := K0.trans K6 (fun x hx => by cases hx)
              have Kh6 : h0.size ≤ b6 := Nat.le_trans K0.1 gk6
              have Zn6 : n0 ≤ T6.heap.size := Nat.le_trans Z0 K6.1
              refine own_Goes.step st6 ?_
              show own_Goes p e below s (own_F0 Z x0 x1 x2 x3 x4 x5 n0 h0) room_1.cells room_1.slots (T6.setTop (mkF m 111 #[.val (.int x0), .val (.long x1), .second, .val (.long x2), .second, .val (.long x3), .second, .val (.long x4), .second, .val (.long x5), .second, .val (.int ((x0 &&& (7 : Int32)) % (6 : Int32))), .val (.long (own_f0_1 x0 x1 x2 x3 x4 x5)), .second, .val (.long (own_f0_2 x0 x1 x2 x3 x4 x5)), .second, .val (.long (own_f0_3 x0 x1 x2 x3 x4 x5)), .second, .val (.long (own_f0_4 x0 x1 x2 x3 x4 x5)), .second, .val (.long (own_f0_5 x0 x1 x2 x3 x4 x5)), .second, .unset, .unset, .unset, .unset, .unset] [(.ref b6)]))
              refine own_Goes.step (fun tq kq => XS.astore Y6.here hx rfl (hb hby at_111) rfl rfl (l' := #[.val (.int x0), .val (.long x1), .second, .val (.long x2), .second, .val (.long x3), .second, .val (.long x4), .second, .val (.long x5), .second, .val (.int ((x0 &&& (7 : Int32)) % (6 : Int32))), .val (.long (own_f0_1 x0 x1 x2 x3 x4 x5)), .second, .val (.long (own_f0_2 x0 x1 x2 x3 x4 x5)), .second, .val (.long (own_f0_3 x0 x1 x2 x3 x4 x5)), .second, .val (.long (own_f0_4 x0 x1 x2 x3 x4 x5)), .second, .val (.long (own_f0_5 x0 x1 x2 x3 x4 x5)), .second, .val (.ref b6), .unset, .unset, .unset, .unset]) rfl kq) ?_
              show own_Goes p e below s (own_F0 Z x0 x1 x2 x3 x4 x5 n0 h0) room_1.cells room_1.slots (T6.setTop (mkF m 113 #[.val (.int x0), .val (.long x1), .second, .val (.long x2), .second, .val (.long x3), .second, .val (.long x4), .second, .val (.long x5), .second, .val (.int ((x0 &&& (7 : Int32)) % (6 : Int32))), .val (.long (own_f0_1 x0 x1 x2 x3 x4 x5)), .second, .val (.long (own_f0_2 x0 x1 x2 x3 x4 x5)), .second, .val (.long (own_f0_3 x0 x1 x2 x3 x4 x5)), .second, .val (.long (own_f0_4 x0 x1 x2 x3 x4 x5)), .second, .val (.long (own_f0_5 x0 x1 x2 x3 x4 x5)), .second, .val (.ref b6), .unset, .unset, .unset, .unset] []))
              refine own_Goes.step (fun tq kq => XS.aload Y6.here hx rfl (hb hby at_113) rfl rfl kq) ?_
              show own_Goes p e below s (own_F0 Z x0 x1 x2 x3 x4 x5 n0 h0) room_1.cells room_1.slots (T6.setTop (mkF m 115 #[.val (.int x0), .val (.long x1), .second, .val (.long x2), .second, .val (.long x3), .second, .val (.long x4), .second, .val (.long x5), .second, .val (.int ((x0 &&& (7 : Int32)) % (6 : Int32))), .val (.long (own_f0_1 x0 x1 x2 x3 x4 x5)), .second, .val (.long (own_f0_2 x0 x1 x2 x3 x4 x5)), .second, .val (.long (own_f0_3 x0 x1 x2 x3 x4 x5)), .second, .val (.long (own_f0_4 x0 x1 x2 x3 x4 x5)), .second, .val (.long (own_f0_5 x0 x1 x2 x3 x4 x5)), .second, .val (.ref b6), .unset, .unset, .unset, .unset] [(.ref b6)]))
              obtain ⟨w7, T7, L7, q7, Y7, st7⟩ := own_stat Y6 hx hZ rfl hown (hw _ (List.mem_of_getElem? (i := 5) rfl)) (hw _ (List.mem_of_getElem? (i := 6) rfl)) (hw _ (List.mem_of_getElem? (i := 7) rfl)) (hw _ (List.mem_of_getElem? (i := 8) rfl)) (by decide) (own_m2 l Z a0 hw [] b6 (own_n x0) (own_w (own_f0_1 x0 x1 x2 x3 x4 x5) (own_f0_2 x0 x1 x2 x3 x4 x5) (own_f0_3 x0 x1 x2 x3 x4 x5) (own_f0_4 x0 x1 x2 x3 x4 x5) (own_f0_5 x0 x1 x2 x3 x4 x5)) n0 T6.heap r6 (Nat.lt_of_le_of_lt (own_n5 x0) (by decide))) (by decide) (W := 0) (by decide) (by decide) (by decide) (g := (mkF m 115 #[.val (.int x0), .val (.long x1), .second, .val (.long x2), .second, .val (.long x3), .second, .val (.long x4), .second, .val (.long x5), .second, .val (.int ((x0 &&& (7 : Int32)) % (6 : Int32))), .val (.long (own_f0_1 x0 x1 x2 x3 x4 x5)), .second, .val (.long (own_f0_2 x0 x1 x2 x3 x4 x5)), .second, .val (.long (own_f0_3 x0 x1 x2 x3 x4 x5)), .second, .val (.long (own_f0_4 x0 x1 x2 x3 x4 x5)), .second, .val (.long (own_f0_5 x0 x1 x2 x3 x4 x5)), .second, .val (.ref b6), .unset, .unset, .unset, .unset] [(.ref b6)])) rfl (by rw [hml]; rfl) (argsL := [(.ref b6)]) (rest := []) (lenOf pd_2 rfl) rfl (by show 2 * 0 + _ ≤ _; exact Nat.le_of_eq rfl) (hb hby at_115)
              obtain ⟨e7, X7⟩ := own_clean q7 Y7 rfl rfl
              obtain ⟨rfl, -, -⟩ := q7
              refine own_Goes.step st7 ?_
              show own_Goes p e below s (own_F0 Z x0 x1 x2 x3 x4 x5 n0 h0) room_1.cells room_1.slots (T7.setTop (mkF m 118 #[.val (.int x0), .val (.long x1), .second, .val (.long x2), .second, .val (.long x3), .second, .val (.long x4), .second, .val (.long x5), .second, .val (.int ((x0 &&& (7 : Int32)) % (6 : Int32))), .val (.long (own_f0_1 x0 x1 x2 x3 x4 x5)), .second, .val (.long (own_f0_2 x0 x1 x2 x3 x4 x5)), .second, .val (.long (own_f0_3 x0 x1 x2 x3 x4 x5)), .second, .val (.long (own_f0_4 x0 x1 x2 x3 x4 x5)), .second, .val (.long (own_f0_5 x0 x1 x2 x3 x4 x5)), .second, .val (.ref b6), .unset, .unset, .unset, .unset] [(.int (own_mfr (own_w (own_f0_1 x0 x1 x2 x3 x4 x5) (own_f0_2 x0 x1 x2 x3 x4 x5) (own_f0_3 x0 x1 x2 x3 x4 x5) (own_f0_4 x0 x1 x2 x3 x4 x5) (own_f0_5 x0 x1 x2 x3 x4 x5)) (own_n x0)))]))
              refine own_Goes.step (fun tq kq => XS.istore X7.here hx rfl (hb hby at_118) rfl (l' := #[.val (.int x0), .val (.long x1), .second, .val (.long x2), .second, .val (.long x3), .second, .val (.long x4), .second, .val (.long x5), .second, .val (.int ((x0 &&& (7 : Int32)) % (6 : Int32))), .val (.long (own_f0_1 x0 x1 x2 x3 x4 x5)), .second, .val (.long (own_f0_2 x0 x1 x2 x3 x4 x5)), .second, .val (.long (own_f0_3 x0 x1 x2 x3 x4 x5)), .second, .val (.long (own_f0_4 x0 x1 x2 x3 x4 x5)), .second, .val (.long (own_f0_5 x0 x1 x2 x3 x4 x5)), .second, .val (.ref b6), .val (.int (own_f0_6 x0 x1 x2 x3 x4 x5)), .unset, .unset, .unset]) rfl kq) ?_
              show own_Goes p e below s (own_F0 Z x0 x1 x2 x3 x4 x5 n0 h0) room_1.cells room_1.slots (T7.setTop (mkF m 120 #[.val (.int x0), .val (.long x1), .second, .val (.long x2), .second, .val (.long x3), .second, .val (.long x4), .second, .val (.long x5), .second, .val (.int ((x0 &&& (7 : Int32)) % (6 : Int32))), .val (.long (own_f0_1 x0 x1 x2 x3 x4 x5)), .second, .val (.long (own_f0_2 x0 x1 x2 x3 x4 x5)), .second, .val (.long (own_f0_3 x0 x1 x2 x3 x4 x5)), .second, .val (.long (own_f0_4 x0 x1 x2 x3 x4 x5)), .second, .val (.long (own_f0_5 x0 x1 x2 x3 x4 x5)), .second, .val (.ref b6), .val (.int (own_f0_6 x0 x1 x2 x3 x4 x5)), .unset, .unset, .unset] []))
              refine own_Goes.step (fun tq kq => XS.iload X7.here hx rfl (hb hby at_120) rfl kq) ?_
              show own_Goes p e below s (own_F0 Z x0 x1 x2 x3 x4 x5 n0 h0) room_1.cells room_1.slots (T7.setTop (mkF m 122 #[.val (.int x0), .val (.long x1), .second, .val (.long x2), .second, .val (.long x3), .second, .val (.long x4), .second, .val (.long x5), .second, .val (.int ((x0 &&& (7 : Int32)) % (6 : Int32))), .val (.long (own_f0_1 x0 x1 x2 x3 x4 x5)), .second, .val (.long (own_f0_2 x0 x1 x2 x3 x4 x5)), .second, .val (.long (own_f0_3 x0 x1 x2 x3 x4 x5)), .second, .val (.long (own_f0_4 x0 x1 x2 x3 x4 x5)), .second, .val (.long (own_f0_5 x0 x1 x2 x3 x4 x5)), .second, .val (.ref b6), .val (.int (own_f0_6 x0 x1 x2 x3 x4 x5)), .unset, .unset, .unset] [(.int ((x0 &&& (7 : Int32)) % (6 : Int32)))]))
              by_cases hc8 : ((x0 &&& (7 : Int32)) % (6 : Int32)) = (0 : Int32)
              · refine own_Goes.step (fun tq kq => XS.ifNo X7.here hx rfl (hb hby at_122) rfl (XT.i0_ne_f hc8) kq) ?_
                show own_Goes p e below s (own_F0 Z x0 x1 x2 x3 x4 x5 n0 h0) room_1.cells room_1.slots (T7.setTop (mkF m 125 #[.val (.int x0), .val (.long x1), .second, .val (.long x2), .second, .val (.long x3), .second, .val (.long x4), .second, .val (.long x5), .second, .val (.int ((x0 &&& (7 : Int32)) % (6 : Int32))), .val (.long (own_f0_1 x0 x1 x2 x3 x4 x5)), .second, .val (.long (own_f0_2 x0 x1 x2 x3 x4 x5)), .second, .val (.long (own_f0_3 x0 x1 x2 x3 x4 x5)), .second, .val (.long (own_f0_4 x0 x1 x2 x3 x4 x5)), .second, .val (.long (own_f0_5 x0 x1 x2 x3 x4 x5)), .second, .val (.ref b6), .val (.int (own_f0_6 x0 x1 x2 x3 x4 x5)), .unset, .unset, .unset] []))
                refine own_Goes.step (fun tq kq => XS.iload X7.here hx rfl (hb hby at_125) rfl kq) ?_
                show own_Goes p e below s (own_F0 Z x0 x1 x2 x3 x4 x5 n0 h0) room_1.cells room_1.slots (T7.setTop (mkF m 127 #[.val (.int x0), .val (.long x1), .second, .val (.long x2), .second, .val (.long x3), .second, .val (.long x4), .second, .val (.long x5), .second, .val (.int ((x0 &&& (7 : Int32)) % (6 : Int32))), .val (.long (own_f0_1 x0 x1 x2 x3 x4 x5)), .second, .val (.long (own_f0_2 x0 x1 x2 x3 x4 x5)), .second, .val (.long (own_f0_3 x0 x1 x2 x3 x4 x5)), .second, .val (.long (own_f0_4 x0 x1 x2 x3 x4 x5)), .second, .val (.long (own_f0_5 x0 x1 x2 x3 x4 x5)), .second, .val (.ref b6), .val (.int (own_f0_6 x0 x1 x2 x3 x4 x5)), .unset, .unset, .unset] [(.int (own_f0_6 x0 x1 x2 x3 x4 x5))]))
                refine own_Goes.step (fun tq kq => XT.iconstV X7.here hx rfl (-1 : Int32) (hb hby at_127) (by decide) kq) ?_
                show own_Goes p e below s (own_F0 Z x0 x1 x2 x3 x4 x5 n0 h0) room_1.cells room_1.slots (T7.setTop (mkF m 128 #[.val (.int x0), .val (.long x1), .second, .val (.long x2), .second, .val (.long x3), .second, .val (.long x4), .second, .val (.long x5), .second, .val (.int ((x0 &&& (7 : Int32)) % (6 : Int32))), .val (.long (own_f0_1 x0 x1 x2 x3 x4 x5)), .second, .val (.long (own_f0_2 x0 x1 x2 x3 x4 x5)), .second, .val (.long (own_f0_3 x0 x1 x2 x3 x4 x5)), .second, .val (.long (own_f0_4 x0 x1 x2 x3 x4 x5)), .second, .val (.long (own_f0_5 x0 x1 x2 x3 x4 x5)), .second, .val (.ref b6), .val (.int (own_f0_6 x0 x1 x2 x3 x4 x5)), .unset, .unset, .unset] [(.int (-1 : Int32)), (.int (own_f0_6 x0 x1 x2 x3 x4 x5))]))
                by_cases hc9 : (own_f0_6 x0 x1 x2 x3 x4 x5) = (-1 : Int32)
                · refine own_Goes.step (fun tq kq => XS.icmpNo X7.here hx rfl (hb hby at_128) rfl (XT.ii_ne_f hc9) kq) ?_
                  show own_Goes p e below s (own_F0 Z x0 x1 x2 x3 x4 x5 n0 h0) room_1.cells room_1.slots (T7.setTop (mkF m 131 #[.val (.int x0), .val (.long x1), .second, .val (.long x2), .second, .val (.long x3), .second, .val (.long x4), .second, .val (.long x5), .second, .val (.int ((x0 &&& (7 : Int32)) % (6 : Int32))), .val (.long (own_f0_1 x0 x1 x2 x3 x4 x5)), .second, .val (.long (own_f0_2 x0 x1 x2 x3 x4 x5)), .second, .val (.long (own_f0_3 x0 x1 x2 x3 x4 x5)), .second, .val (.long (own_f0_4 x0 x1 x2 x3 x4 x5)), .second, .val (.long (own_f0_5 x0 x1 x2 x3 x4 x5)), .second, .val (.ref b6), .val (.int (own_f0_6 x0 x1 x2 x3 x4 x5)), .unset, .unset, .unset] []))
                  refine own_Goes.step (fun tq kq => XT.iconstV X7.here hx rfl (1 : Int32) (hb hby at_131) (by decide) kq) ?_
                  show own_Goes p e below s (own_F0 Z x0 x1 x2 x3 x4 x5 n0 h0) room_1.cells room_1.slots (T7.setTop (mkF m 132 #[.val (.int x0), .val (.long x1), .second, .val (.long x2), .second, .val (.long x3), .second, .val (.long x4), .second, .val (.long x5), .second, .val (.int ((x0 &&& (7 : Int32)) % (6 : Int32))), .val (.long (own_f0_1 x0 x1 x2 x3 x4 x5)), .second, .val (.long (own_f0_2 x0 x1 x2 x3 x4 x5)), .second, .val (.long (own_f0_3 x0 x1 x2 x3 x4 x5)), .second, .val (.long (own_f0_4 x0 x1 x2 x3 x4 x5)), .second, .val (.long (own_f0_5 x0 x1 x2 x3 x4 x5)), .second, .val (.ref b6), .val (.int (own_f0_6 x0 x1 x2 x3 x4 x5)), .unset, .unset, .unset] [(.int (1 : Int32))]))
                  refine own_Goes.step (fun tq kq => XS.goto X7.here hx rfl (pc0 := 132) (pc' := 136) rfl (hb hby at_132) (by decide) (by decide) kq) ?_
                  show own_Goes p e below s (own_F0 Z x0 x1 x2 x3 x4 x5 n0 h0) room_1.cells room_1.slots (T7.setTop (mkF m 136 #[.val (.int x0), .val (.long x1), .second, .val (.long x2), .second, .val (.long x3), .second, .val (.long x4), .second, .val (.long x5), .second, .val (.int ((x0 &&& (7 : Int32)) % (6 : Int32))), .val (.long (own_f0_1 x0 x1 x2 x3 x4 x5)), .second, .val (.long (own_f0_2 x0 x1 x2 x3 x4 x5)), .second, .val (.long (own_f0_3 x0 x1 x2 x3 x4 x5)), .second, .val (.long (own_f0_4 x0 x1 x2 x3 x4 x5)), .second, .val (.long (own_f0_5 x0 x1 x2 x3 x4 x5)), .second, .val (.ref b6), .val (.int (own_f0_6 x0 x1 x2 x3 x4 x5)), .unset, .unset, .unset] [(.int (1 : Int32))]))
                  exact own_endN X7 hx Bd.notSynchronized (t := .boolean) Bd.returns (by simp) (hb hby at_136) ⟨(congrArg (fun z => some (Value.int z)) (show (1 : Int32) = own_f0 x0 x1 x2 x3 x4 x5 from by simp only [own_f0, if_pos hc8, if_pos hc9])), Nn6⟩ (by decide) (by decide)
                · refine own_Goes.step (fun tq kq => XS.icmpYes X7.here hx rfl (pc0 := 128) (pc' := 135) rfl (hb hby at_128) rfl (XT.ii_ne_t hc9) (by decide) (by decide) kq) ?_
                  show own_Goes p e below s (own_F0 Z x0 x1 x2 x3 x4 x5 n0 h0) room_1.cells room_1.slots (T7.setTop (mkF m 135 #[.val (.int x0), .val (.long x1), .second, .val (.long x2), .second, .val (.long x3), .second, .val (.long x4), .second, .val (.long x5), .second, .val (.int ((x0 &&& (7 : Int32)) % (6 : Int32))), .val (.long (own_f0_1 x0 x1 x2 x3 x4 x5)), .second, .val (.long (own_f0_2 x0 x1 x2 x3 x4 x5)), .second, .val (.long (own_f0_3 x0 x1 x2 x3 x4 x5)), .second, .val (.long (own_f0_4 x0 x1 x2 x3 x4 x5)), .second, .val (.long (own_f0_5 x0 x1 x2 x3 x4 x5)), .second, .val (.ref b6), .val (.int (own_f0_6 x0 x1 x2 x3 x4 x5)), .unset, .unset, .unset] []))
                  refine own_Goes.step (fun tq kq => XT.iconstV X7.here hx rfl (0 : Int32) (hb hby at_135) (by decide) kq) ?_
                  show own_Goes p e below s (own_F0 Z x0 x1 x2 x3 x4 x5 n0 h0) room_1.cells room_1.slots (T7.setTop (mkF m 136 #[.val (.int x0), .val (.long x1), .second, .val (.long x2), .second, .val (.long x3), .second, .val (.long x4), .second, .val (.long x5), .second, .val (.int ((x0 &&& (7 : Int32)) % (6 : Int32))), .val (.long (own_f0_1 x0 x1 x2 x3 x4 x5)), .second, .val (.long (own_f0_2 x0 x1 x2 x3 x4 x5)), .second, .val (.long (own_f0_3 x0 x1 x2 x3 x4 x5)), .second, .val (.long (own_f0_4 x0 x1 x2 x3 x4 x5)), .second, .val (.long (own_f0_5 x0 x1 x2 x3 x4 x5)), .second, .val (.ref b6), .val (.int (own_f0_6 x0 x1 x2 x3 x4 x5)), .unset, .unset, .unset] [(.int (0 : Int32))]))
                  exact own_endN X7 hx Bd.notSynchronized (t := .boolean) Bd.returns (by simp) (hb hby at_136) ⟨(congrArg (fun z => some (Value.int z)) (show (0 : Int32) = own_f0 x0 x1 x2 x3 x4 x5 from by simp only [own_f0, if_pos hc8, if_neg hc9])), Nn6⟩ (by decide) (by decide)
              · refine own_Goes.step (fun tq kq => XS.ifYes X7.here hx rfl (pc0 := 122) (pc' := 137) rfl (hb hby at_122) rfl (XT.i0_ne_t hc8) (by decide) (by decide) kq) ?_
                show own_Goes p e below s (own_F0 Z x0 x1 x2 x3 x4 x5 n0 h0) room_1.cells room_1.slots (T7.setTop (mkF m 137 #[.val (.int x0), .val (.long x1), .second, .val (.long x2), .second, .val (.long x3), .second, .val (.long x4), .second, .val (.long x5), .second, .val (.int ((x0 &&& (7 : Int32)) % (6 : Int32))), .val (.long (own_f0_1 x0 x1 x2 x3 x4 x5)), .second, .val (.long (own_f0_2 x0 x1 x2 x3 x4 x5)), .second, .val (.long (own_f0_3 x0 x1 x2 x3 x4 x5)), .second, .val (.long (own_f0_4 x0 x1 x2 x3 x4 x5)), .second, .val (.long (own_f0_5 x0 x1 x2 x3 x4 x5)), .second, .val (.ref b6), .val (.int (own_f0_6 x0 x1 x2 x3 x4 x5)), .unset, .unset, .unset] []))
                refine own_Goes.step (fun tq kq => XS.iload X7.here hx rfl (hb hby at_137) rfl kq) ?_
                show own_Goes p e below s (own_F0 Z x0 x1 x2 x3 x4 x5 n0 h0) room_1.cells room_1.slots (T7.setTop (mkF m 139 #[.val (.int x0), .val (.long x1), .second, .val (.long x2), .second, .val (.long x3), .second, .val (.long x4), .second, .val (.long x5), .second, .val (.int ((x0 &&& (7 : Int32)) % (6 : Int32))), .val (.long (own_f0_1 x0 x1 x2 x3 x4 x5)), .second, .val (.long (own_f0_2 x0 x1 x2 x3 x4 x5)), .second, .val (.long (own_f0_3 x0 x1 x2 x3 x4 x5)), .second, .val (.long (own_f0_4 x0 x1 x2 x3 x4 x5)), .second, .val (.long (own_f0_5 x0 x1 x2 x3 x4 x5)), .second, .val (.ref b6), .val (.int (own_f0_6 x0 x1 x2 x3 x4 x5)), .unset, .unset, .unset] [(.int (own_f0_6 x0 x1 x2 x3 x4 x5))]))
                by_cases hc10 : (own_f0_6 x0 x1 x2 x3 x4 x5) < (0 : Int32)
                · refine own_Goes.step (fun tq kq => XS.ifYes X7.here hx rfl (pc0 := 139) (pc' := 151) rfl (hb hby at_139) rfl (XT.i0_lt_t hc10) (by decide) (by decide) kq) ?_
                  show own_Goes p e below s (own_F0 Z x0 x1 x2 x3 x4 x5 n0 h0) room_1.cells room_1.slots (T7.setTop (mkF m 151 #[.val (.int x0), .val (.long x1), .second, .val (.long x2), .second, .val (.long x3), .second, .val (.long x4), .second, .val (.long x5), .second, .val (.int ((x0 &&& (7 : Int32)) % (6 : Int32))), .val (.long (own_f0_1 x0 x1 x2 x3 x4 x5)), .second, .val (.long (own_f0_2 x0 x1 x2 x3 x4 x5)), .second, .val (.long (own_f0_3 x0 x1 x2 x3 x4 x5)), .second, .val (.long (own_f0_4 x0 x1 x2 x3 x4 x5)), .second, .val (.long (own_f0_5 x0 x1 x2 x3 x4 x5)), .second, .val (.ref b6), .val (.int (own_f0_6 x0 x1 x2 x3 x4 x5)), .unset, .unset, .unset] []))
                  refine own_Goes.step (fun tq kq => XT.iconstV X7.here hx rfl (0 : Int32) (hb hby at_151) (by decide) kq) ?_
                  show own_Goes p e below s (own_F0 Z x0 x1 x2 x3 x4 x5 n0 h0) room_1.cells room_1.slots (T7.setTop (mkF m 152 #[.val (.int x0), .val (.long x1), .second, .val (.long x2), .second, .val (.long x3), .second, .val (.long x4), .second, .val (.long x5), .second, .val (.int ((x0 &&& (7 : Int32)) % (6 : Int32))), .val (.long (own_f0_1 x0 x1 x2 x3 x4 x5)), .second, .val (.long (own_f0_2 x0 x1 x2 x3 x4 x5)), .second, .val (.long (own_f0_3 x0 x1 x2 x3 x4 x5)), .second, .val (.long (own_f0_4 x0 x1 x2 x3 x4 x5)), .second, .val (.long (own_f0_5 x0 x1 x2 x3 x4 x5)), .second, .val (.ref b6), .val (.int (own_f0_6 x0 x1 x2 x3 x4 x5)), .unset, .unset, .unset] [(.int (0 : Int32))]))
                  exact own_endN X7 hx Bd.notSynchronized (t := .boolean) Bd.returns (by simp) (hb hby at_152) ⟨(congrArg (fun z => some (Value.int z)) (show (0 : Int32) = own_f0 x0 x1 x2 x3 x4 x5 from by simp only [own_f0, if_neg hc8, if_pos hc10])), Nn6⟩ (by decide) (by decide)
                · refine own_Goes.step (fun tq kq => XS.ifNo X7.here hx rfl (hb hby at_139) rfl (XT.i0_lt_f hc10) kq) ?_
                  show own_Goes p e below s (own_F0 Z x0 x1 x2 x3 x4 x5 n0 h0) room_1.cells room_1.slots (T7.setTop (mkF m 142 #[.val (.int x0), .val (.long x1), .second, .val (.long x2), .second, .val (.long x3), .second, .val (.long x4), .second, .val (.long x5), .second, .val (.int ((x0 &&& (7 : Int32)) % (6 : Int32))), .val (.long (own_f0_1 x0 x1 x2 x3 x4 x5)), .second, .val (.long (own_f0_2 x0 x1 x2 x3 x4 x5)), .second, .val (.long (own_f0_3 x0 x1 x2 x3 x4 x5)), .second, .val (.long (own_f0_4 x0 x1 x2 x3 x4 x5)), .second, .val (.long (own_f0_5 x0 x1 x2 x3 x4 x5)), .second, .val (.ref b6), .val (.int (own_f0_6 x0 x1 x2 x3 x4 x5)), .unset, .unset, .unset] []))
                  refine own_Goes.step (fun tq kq => XS.iload X7.here hx rfl (hb hby at_142) rfl kq) ?_
                  show own_Goes p e below s (own_F0 Z x0 x1 x2 x3 x4 x5 n0 h0) room_1.cells room_1.slots (T7.setTop (mkF m 144 #[.val (.int x0), .val (.long x1), .second, .val (.long x2), .second, .val (.long x3), .second, .val (.long x4), .second, .val (.long x5), .second, .val (.int ((x0 &&& (7 : Int32)) % (6 : Int32))), .val (.long (own_f0_1 x0 x1 x2 x3 x4 x5)), .second, .val (.long (own_f0_2 x0 x1 x2 x3 x4 x5)), .second, .val (.long (own_f0_3 x0 x1 x2 x3 x4 x5)), .second, .val (.long (own_f0_4 x0 x1 x2 x3 x4 x5)), .second, .val (.long (own_f0_5 x0 x1 x2 x3 x4 x5)), .second, .val (.ref b6), .val (.int (own_f0_6 x0 x1 x2 x3 x4 x5)), .unset, .unset, .unset] [(.int (own_f0_6 x0 x1 x2 x3 x4 x5))]))
                  refine own_Goes.step (fun tq kq => XS.iload X7.here hx rfl (hb hby at_144) rfl kq) ?_
                  show own_Goes p e below s (own_F0 Z x0 x1 x2 x3 x4 x5 n0 h0) room_1.cells room_1.slots (T7.setTop (mkF m 146 #[.val (.int x0), .val (.long x1), .second, .val (.long x2), .second, .val (.long x3), .second, .val (.long x4), .second, .val (.long x5), .second, .val (.int ((x0 &&& (7 : Int32)) % (6 : Int32))), .val (.long (own_f0_1 x0 x1 x2 x3 x4 x5)), .second, .val (.long (own_f0_2 x0 x1 x2 x3 x4 x5)), .second, .val (.long (own_f0_3 x0 x1 x2 x3 x4 x5)), .second, .val (.long (own_f0_4 x0 x1 x2 x3 x4 x5)), .second, .val (.long (own_f0_5 x0 x1 x2 x3 x4 x5)), .second, .val (.ref b6), .val (.int (own_f0_6 x0 x1 x2 x3 x4 x5)), .unset, .unset, .unset] [(.int ((x0 &&& (7 : Int32)) % (6 : Int32))), (.int (own_f0_6 x0 x1 x2 x3 x4 x5))]))
                  refine own_Goes.step (fun tq kq => XT.iconstV X7.here hx rfl (1 : Int32) (hb hby at_146) (by decide) kq) ?_
                  show own_Goes p e below s (own_F0 Z x0 x1 x2 x3 x4 x5 n0 h0) room_1.cells room_1.slots (T7.setTop (mkF m 147 #[.val (.int x0), .val (.long x1), .second, .val (.long x2), .second, .val (.long x3), .second, .val (.long x4), .second, .val (.long x5), .second, .val (.int ((x0 &&& (7 : Int32)) % (6 : Int32))), .val (.long (own_f0_1 x0 x1 x2 x3 x4 x5)), .second, .val (.long (own_f0_2 x0 x1 x2 x3 x4 x5)), .second, .val (.long (own_f0_3 x0 x1 x2 x3 x4 x5)), .second, .val (.long (own_f0_4 x0 x1 x2 x3 x4 x5)), .second, .val (.long (own_f0_5 x0 x1 x2 x3 x4 x5)), .second, .val (.ref b6), .val (.int (own_f0_6 x0 x1 x2 x3 x4 x5)), .unset, .unset, .unset] [(.int (1 : Int32)), (.int ((x0 &&& (7 : Int32)) % (6 : Int32))), (.int (own_f0_6 x0 x1 x2 x3 x4 x5))]))
                  refine own_Goes.step (fun tq kq => XS.isub X7.here hx rfl (hb hby at_147) rfl kq) ?_
                  show own_Goes p e below s (own_F0 Z x0 x1 x2 x3 x4 x5 n0 h0) room_1.cells room_1.slots (T7.setTop (mkF m 148 #[.val (.int x0), .val (.long x1), .second, .val (.long x2), .second, .val (.long x3), .second, .val (.long x4), .second, .val (.long x5), .second, .val (.int ((x0 &&& (7 : Int32)) % (6 : Int32))), .val (.long (own_f0_1 x0 x1 x2 x3 x4 x5)), .second, .val (.long (own_f0_2 x0 x1 x2 x3 x4 x5)), .second, .val (.long (own_f0_3 x0 x1 x2 x3 x4 x5)), .second, .val (.long (own_f0_4 x0 x1 x2 x3 x4 x5)), .second, .val (.long (own_f0_5 x0 x1 x2 x3 x4 x5)), .second, .val (.ref b6), .val (.int (own_f0_6 x0 x1 x2 x3 x4 x5)), .unset, .unset, .unset] [(.int (((x0 &&& (7 : Int32)) % (6 : Int32)) - (1 : Int32))), (.int (own_f0_6 x0 x1 x2 x3 x4 x5))]))
                  by_cases hc11 : (((x0 &&& (7 : Int32)) % (6 : Int32)) - (1 : Int32)) < (own_f0_6 x0 x1 x2 x3 x4 x5)
                  · refine own_Goes.step (fun tq kq => XS.icmpNo X7.here hx rfl (hb hby at_148) rfl (XT.ii_le_f hc11) kq) ?_
                    show own_Goes p e below s (own_F0 Z x0 x1 x2 x3 x4 x5 n0 h0) room_1.cells room_1.slots (T7.setTop (mkF m 151 #[.val (.int x0), .val (.long x1), .second, .val (.long x2), .second, .val (.long x3), .second, .val (.long x4), .second, .val (.long x5), .second, .val (.int ((x0 &&& (7 : Int32)) % (6 : Int32))), .val (.long (own_f0_1 x0 x1 x2 x3 x4 x5)), .second, .val (.long (own_f0_2 x0 x1 x2 x3 x4 x5)), .second, .val (.long (own_f0_3 x0 x1 x2 x3 x4 x5)), .second, .val (.long (own_f0_4 x0 x1 x2 x3 x4 x5)), .second, .val (.long (own_f0_5 x0 x1 x2 x3 x4 x5)), .second, .val (.ref b6), .val (.int (own_f0_6 x0 x1 x2 x3 x4 x5)), .unset, .unset, .unset] []))
                    refine own_Goes.step (fun tq kq => XT.iconstV X7.here hx rfl (0 : Int32) (hb hby at_151) (by decide) kq) ?_
                    show own_Goes p e below s (own_F0 Z x0 x1 x2 x3 x4 x5 n0 h0) room_1.cells room_1.slots (T7.setTop (mkF m 152 #[.val (.int x0), .val (.long x1), .second, .val (.long x2), .second, .val (.long x3), .second, .val (.long x4), .second, .val (.long x5), .second, .val (.int ((x0 &&& (7 : Int32)) % (6 : Int32))), .val (.long (own_f0_1 x0 x1 x2 x3 x4 x5)), .second, .val (.long (own_f0_2 x0 x1 x2 x3 x4 x5)), .second, .val (.long (own_f0_3 x0 x1 x2 x3 x4 x5)), .second, .val (.long (own_f0_4 x0 x1 x2 x3 x4 x5)), .second, .val (.long (own_f0_5 x0 x1 x2 x3 x4 x5)), .second, .val (.ref b6), .val (.int (own_f0_6 x0 x1 x2 x3 x4 x5)), .unset, .unset, .unset] [(.int (0 : Int32))]))
                    exact own_endN X7 hx Bd.notSynchronized (t := .boolean) Bd.returns (by simp) (hb hby at_152) ⟨(congrArg (fun z => some (Value.int z)) (show (0 : Int32) = own_f0 x0 x1 x2 x3 x4 x5 from by simp only [own_f0, if_neg hc8, if_neg hc10, if_pos hc11])), Nn6⟩ (by decide) (by decide)
                  · refine own_Goes.step (fun tq kq => XS.icmpYes X7.here hx rfl (pc0 := 148) (pc' := 153) rfl (hb hby at_148) rfl (XT.ii_le_t hc11) (by decide) (by decide) kq) ?_
                    show own_Goes p e below s (own_F0 Z x0 x1 x2 x3 x4 x5 n0 h0) room_1.cells room_1.slots (T7.setTop (mkF m 153 #[.val (.int x0), .val (.long x1), .second, .val (.long x2), .second, .val (.long x3), .second, .val (.long x4), .second, .val (.long x5), .second, .val (.int ((x0 &&& (7 : Int32)) % (6 : Int32))), .val (.long (own_f0_1 x0 x1 x2 x3 x4 x5)), .second, .val (.long (own_f0_2 x0 x1 x2 x3 x4 x5)), .second, .val (.long (own_f0_3 x0 x1 x2 x3 x4 x5)), .second, .val (.long (own_f0_4 x0 x1 x2 x3 x4 x5)), .second, .val (.long (own_f0_5 x0 x1 x2 x3 x4 x5)), .second, .val (.ref b6), .val (.int (own_f0_6 x0 x1 x2 x3 x4 x5)), .unset, .unset, .unset] []))
                    refine own_Goes.step (fun tq kq => XT.iconstV X7.here hx rfl (5 : Int32) (hb hby at_153) (by decide) kq) ?_
                    show own_Goes p e below s (own_F0 Z x0 x1 x2 x3 x4 x5 n0 h0) room_1.cells room_1.slots (T7.setTop (mkF m 154 #[.val (.int x0), .val (.long x1), .second, .val (.long x2), .second, .val (.long x3), .second, .val (.long x4), .second, .val (.long x5), .second, .val (.int ((x0 &&& (7 : Int32)) % (6 : Int32))), .val (.long (own_f0_1 x0 x1 x2 x3 x4 x5)), .second, .val (.long (own_f0_2 x0 x1 x2 x3 x4 x5)), .second, .val (.long (own_f0_3 x0 x1 x2 x3 x4 x5)), .second, .val (.long (own_f0_4 x0 x1 x2 x3 x4 x5)), .second, .val (.long (own_f0_5 x0 x1 x2 x3 x4 x5)), .second, .val (.ref b6), .val (.int (own_f0_6 x0 x1 x2 x3 x4 x5)), .unset, .unset, .unset] [(.int (5 : Int32))]))
                    obtain ⟨T12, h12, k12, X12, e12, E12, A12, st12⟩ := newP X7 hx hZ (hw _ (List.mem_of_getElem? (i := 4) rfl)) e7 (g := (mkF m 154 #[.val (.int x0), .val (.long x1), .second, .val (.long x2), .second, .val (.long x3), .second, .val (.long x4), .second, .val (.long x5), .second, .val (.int ((x0 &&& (7 : Int32)) % (6 : Int32))), .val (.long (own_f0_1 x0 x1 x2 x3 x4 x5)), .second, .val (.long (own_f0_2 x0 x1 x2 x3 x4 x5)), .second, .val (.long (own_f0_3 x0 x1 x2 x3 x4 x5)), .second, .val (.long (own_f0_4 x0 x1 x2 x3 x4 x5)), .second, .val (.long (own_f0_5 x0 x1 x2 x3 x4 x5)), .second, .val (.ref b6), .val (.int (own_f0_6 x0 x1 x2 x3 x4 x5)), .unset, .unset, .unset] [(.int (5 : Int32))])) rfl (hb hby at_154) rfl (by decide) (cap := 5) (by decide) (by decide) (by decide) (by decide)
                    obtain ⟨a12, g12⟩ : ∃ z, z = T6.heap.size := ⟨_, rfl⟩
                    rw [← g12] at A12 st12
                    have ne13 : b6 ≠ a12 := by rw [g12]; exact Nat.ne_of_lt r6.lt
                    have f14 := r6.ext E12
                    have r12 : own_Ar Z h12 a12 .long 5 (fun uu => .long ((fun _ => (0 : Int64)) uu)) := own_Ar.new A12
                    have ga12 : n0 ≤ a12 := Nat.le_trans Zn6 (Nat.le_of_eq g12.symm)
                    have Z12 : n0 ≤ h12.size := Nat.le_trans Zn6 E12.1
                    have K12 := Kn6.ext E12
                    have Kh12 : h0.size ≤ a12 := Nat.le_trans Kn6.1 (Nat.le_of_eq g12.symm)
                    refine own_Goes.step st12 ?_
                    show own_Goes p e below s (own_F0 Z x0 x1 x2 x3 x4 x5 n0 h0) room_1.cells room_1.slots (T12.setTop (mkF m 156 #[.val (.int x0), .val (.long x1), .second, .val (.long x2), .second, .val (.long x3), .second, .val (.long x4), .second, .val (.long x5), .second, .val (.int ((x0 &&& (7 : Int32)) % (6 : Int32))), .val (.long (own_f0_1 x0 x1 x2 x3 x4 x5)), .second, .val (.long (own_f0_2 x0 x1 x2 x3 x4 x5)), .second, .val (.long (own_f0_3 x0 x1 x2 x3 x4 x5)), .second, .val (.long (own_f0_4 x0 x1 x2 x3 x4 x5)), .second, .val (.long (own_f0_5 x0 x1 x2 x3 x4 x5)), .second, .val (.ref b6), .val (.int (own_f0_6 x0 x1 x2 x3 x4 x5)), .unset, .unset, .unset] [(.ref a12)]))
                    refine own_Goes.step (fun tq kq => XS.dup X12.here hx rfl (hb hby at_156) rfl rfl kq) ?_
                    show own_Goes p e below s (own_F0 Z x0 x1 x2 x3 x4 x5 n0 h0) room_1.cells room_1.slots (T12.setTop (mkF m 157 #[.val (.int x0), .val (.long x1), .second, .val (.long x2), .second, .val (.long x3), .second, .val (.long x4), .second, .val (.long x5), .second, .val (.int ((x0 &&& (7 : Int32)) % (6 : Int32))), .val (.long (own_f0_1 x0 x1 x2 x3 x4 x5)), .second, .val (.long (own_f0_2 x0 x1 x2 x3 x4 x5)), .second, .val (.long (own_f0_3 x0 x1 x2 x3 x4 x5)), .second, .val (.long (own_f0_4 x0 x1 x2 x3 x4 x5)), .second, .val (.long (own_f0_5 x0 x1 x2 x3 x4 x5)), .second, .val (.ref b6), .val (.int (own_f0_6 x0 x1 x2 x3 x4 x5)), .unset, .unset, .unset] [(.ref a12), (.ref a12)]))
                    refine own_Goes.step (fun tq kq => XT.iconstV X12.here hx rfl (0 : Int32) (hb hby at_157) (by decide) kq) ?_
                    show own_Goes p e below s (own_F0 Z x0 x1 x2 x3 x4 x5 n0 h0) room_1.cells room_1.slots (T12.setTop (mkF m 158 #[.val (.int x0), .val (.long x1), .second, .val (.long x2), .second, .val (.long x3), .second, .val (.long x4), .second, .val (.long x5), .second, .val (.int ((x0 &&& (7 : Int32)) % (6 : Int32))), .val (.long (own_f0_1 x0 x1 x2 x3 x4 x5)), .second, .val (.long (own_f0_2 x0 x1 x2 x3 x4 x5)), .second, .val (.long (own_f0_3 x0 x1 x2 x3 x4 x5)), .second, .val (.long (own_f0_4 x0 x1 x2 x3 x4 x5)), .second, .val (.long (own_f0_5 x0 x1 x2 x3 x4 x5)), .second, .val (.ref b6), .val (.int (own_f0_6 x0 x1 x2 x3 x4 x5)), .unset, .unset, .unset] [(.int (0 : Int32)), (.ref a12), (.ref a12)]))
                    refine own_Goes.step (fun tq kq => XT.lload X12.here hx rfl (hb hby at_158) rfl kq) ?_
                    show own_Goes p e below s (own_F0 Z x0 x1 x2 x3 x4 x5 n0 h0) room_1.cells room_1.slots (T12.setTop (mkF m 160 #[.val (.int x0), .val (.long x1), .second, .val (.long x2), .second, .val (.long x3), .second, .val (.long x4), .second, .val (.long x5), .second, .val (.int ((x0 &&& (7 : Int32)) % (6 : Int32))), .val (.long (own_f0_1 x0 x1 x2 x3 x4 x5)), .second, .val (.long (own_f0_2 x0 x1 x2 x3 x4 x5)), .second, .val (.long (own_f0_3 x0 x1 x2 x3 x4 x5)), .second, .val (.long (own_f0_4 x0 x1 x2 x3 x4 x5)), .second, .val (.long (own_f0_5 x0 x1 x2 x3 x4 x5)), .second, .val (.ref b6), .val (.int (own_f0_6 x0 x1 x2 x3 x4 x5)), .unset, .unset, .unset] [(.long (own_f0_1 x0 x1 x2 x3 x4 x5)), (.int (0 : Int32)), (.ref a12), (.ref a12)]))
                    obtain ⟨T15, h15, X15, e15, W15, st15⟩ := own_last X12 hx hZ e12 r12 (i := 0) rfl (by decide) (g := (mkF m 160 #[.val (.int x0), .val (.long x1), .second, .val (.long x2), .second, .val (.long x3), .second, .val (.long x4), .second, .val (.long x5), .second, .val (.int ((x0 &&& (7 : Int32)) % (6 : Int32))), .val (.long (own_f0_1 x0 x1 x2 x3 x4 x5)), .second, .val (.long (own_f0_2 x0 x1 x2 x3 x4 x5)), .second, .val (.long (own_f0_3 x0 x1 x2 x3 x4 x5)), .second, .val (.long (own_f0_4 x0 x1 x2 x3 x4 x5)), .second, .val (.long (own_f0_5 x0 x1 x2 x3 x4 x5)), .second, .val (.ref b6), .val (.int (own_f0_6 x0 x1 x2 x3 x4 x5)), .unset, .unset, .unset] [(.long (own_f0_1 x0 x1 x2 x3 x4 x5)), (.int (0 : Int32)), (.ref a12), (.ref a12)])) rfl rfl (hb hby at_160)
                    refine own_Goes.step st15 ?_
                    have f16 := f14.other W15 ne13
                    have f17 : own_Ar Z h15 a12 .long 5 (fun uu => .long ((own_f0_7 x0 x1 x2 x3 x4 x5) uu)) := (r12.set W15).congr fun j _ => by dsimp only [own_f0_7]; exact (apply_ite Value.long _ _ _).symm
                    have K18 := K12.wr W15 (Or.inr Kh12)
                    have N19 := Fr.snoc X15 Nn6 ga12
                    have Z20 : n0 ≤ h15.size := Nat.le_trans Z12 (Keep.of_wr W15).1
                    show own_Goes p e below s (own_F0 Z x0 x1 x2 x3 x4 x5 n0 h0) room_1.cells room_1.slots (T15.setTop (mkF m 161 #[.val (.int x0), .val (.long x1), .second, .val (.long x2), .second, .val (.long x3), .second, .val (.long x4), .second, .val (.long x5), .second, .val (.int ((x0 &&& (7 : Int32)) % (6 : Int32))), .val (.long (own_f0_1 x0 x1 x2 x3 x4 x5)), .second, .val (.long (own_f0_2 x0 x1 x2 x3 x4 x5)), .second, .val (.long (own_f0_3 x0 x1 x2 x3 x4 x5)), .second, .val (.long (own_f0_4 x0 x1 x2 x3 x4 x5)), .second, .val (.long (own_f0_5 x0 x1 x2 x3 x4 x5)), .second, .val (.ref b6), .val (.int (own_f0_6 x0 x1 x2 x3 x4 x5)), .unset, .unset, .unset] [(.ref a12)]))
                    refine own_Goes.step (fun tq kq => XS.dup X15.here hx rfl (hb hby at_161) rfl rfl kq) ?_
                    show own_Goes p e below s (own_F0 Z x0 x1 x2 x3 x4 x5 n0 h0) room_1.cells room_1.slots (T15.setTop (mkF m 162 #[.val (.int x0), .val (.long x1), .second, .val (.long x2), .second, .val (.long x3), .second, .val (.long x4), .second, .val (.long x5), .second, .val (.int ((x0 &&& (7 : Int32)) % (6 : Int32))), .val (.long (own_f0_1 x0 x1 x2 x3 x4 x5)), .second, .val (.long (own_f0_2 x0 x1 x2 x3 x4 x5)), .second, .val (.long (own_f0_3 x0 x1 x2 x3 x4 x5)), .second, .val (.long (own_f0_4 x0 x1 x2 x3 x4 x5)), .second, .val (.long (own_f0_5 x0 x1 x2 x3 x4 x5)), .second, .val (.ref b6), .val (.int (own_f0_6 x0 x1 x2 x3 x4 x5)), .unset, .unset, .unset] [(.ref a12), (.ref a12)]))
                    refine own_Goes.step (fun tq kq => XT.iconstV X15.here hx rfl (1 : Int32) (hb hby at_162) (by decide) kq) ?_
                    show own_Goes p e below s (own_F0 Z x0 x1 x2 x3 x4 x5 n0 h0) room_1.cells room_1.slots (T15.setTop (mkF m 163 #[.val (.int x0), .val (.long x1), .second, .val (.long x2), .second, .val (.long x3), .second, .val (.long x4), .second, .val (.long x5), .second, .val (.int ((x0 &&& (7 : Int32)) % (6 : Int32))), .val (.long (own_f0_1 x0 x1 x2 x3 x4 x5)), .second, .val (.long (own_f0_2 x0 x1 x2 x3 x4 x5)), .second, .val (.long (own_f0_3 x0 x1 x2 x3 x4 x5)), .second, .val (.long (own_f0_4 x0 x1 x2 x3 x4 x5)), .second, .val (.long (own_f0_5 x0 x1 x2 x3 x4 x5)), .second, .val (.ref b6), .val (.int (own_f0_6 x0 x1 x2 x3 x4 x5)), .unset, .unset, .unset] [(.int (1 : Int32)), (.ref a12), (.ref a12)]))
                    refine own_Goes.step (fun tq kq => XT.lload X15.here hx rfl (hb hby at_163) rfl kq) ?_
                    show own_Goes p e below s (own_F0 Z x0 x1 x2 x3 x4 x5 n0 h0) room_1.cells room_1.slots (T15.setTop (mkF m 165 #[.val (.int x0), .val (.long x1), .second, .val (.long x2), .second, .val (.long x3), .second, .val (.long x4), .second, .val (.long x5), .second, .val (.int ((x0 &&& (7 : Int32)) % (6 : Int32))), .val (.long (own_f0_1 x0 x1 x2 x3 x4 x5)), .second, .val (.long (own_f0_2 x0 x1 x2 x3 x4 x5)), .second, .val (.long (own_f0_3 x0 x1 x2 x3 x4 x5)), .second, .val (.long (own_f0_4 x0 x1 x2 x3 x4 x5)), .second, .val (.long (own_f0_5 x0 x1 x2 x3 x4 x5)), .second, .val (.ref b6), .val (.int (own_f0_6 x0 x1 x2 x3 x4 x5)), .unset, .unset, .unset] [(.long (own_f0_2 x0 x1 x2 x3 x4 x5)), (.int (1 : Int32)), (.ref a12), (.ref a12)]))
                    obtain ⟨T21, h21, X21, e21, W21, st21⟩ := own_last X15 hx hZ e15 f17 (i := 1) rfl (by decide) (g := (mkF m 165 #[.val (.int x0), .val (.long x1), .second, .val (.long x2), .second, .val (.long x3), .second, .val (.long x4), .second, .val (.long x5), .second, .val (.int ((x0 &&& (7 : Int32)) % (6 : Int32))), .val (.long (own_f0_1 x0 x1 x2 x3 x4 x5)), .second, .val (.long (own_f0_2 x0 x1 x2 x3 x4 x5)), .second, .val (.long (own_f0_3 x0 x1 x2 x3 x4 x5)), .second, .val (.long (own_f0_4 x0 x1 x2 x3 x4 x5)), .second, .val (.long (own_f0_5 x0 x1 x2 x3 x4 x5)), .second, .val (.ref b6), .val (.int (own_f0_6 x0 x1 x2 x3 x4 x5)), .unset, .unset, .unset] [(.long (own_f0_2 x0 x1 x2 x3 x4 x5)), (.int (1 : Int32)), (.ref a12), (.ref a12)])) rfl rfl (hb hby at_165)
                    refine own_Goes.step st21 ?_
                    have f22 := f16.other W21 ne13
                    have f23 : own_Ar Z h21 a12 .long 5 (fun uu => .long ((own_f0_8 x0 x1 x2 x3 x4 x5) uu)) := (f17.set W21).congr fun j _ => by dsimp only [own_f0_8]; exact (apply_ite Value.long _ _ _).symm
                    have K24 := K18.wr W21 (Or.inr Kh12)
                    have N25 := Fr.snoc X21 N19 ga12
                    have Z26 : n0 ≤ h21.size := Nat.le_trans Z20 (Keep.of_wr W21).1
                    show own_Goes p e below s (own_F0 Z x0 x1 x2 x3 x4 x5 n0 h0) room_1.cells room_1.slots (T21.setTop (mkF m 166 #[.val (.int x0), .val (.long x1), .second, .val (.long x2), .second, .val (.long x3), .second, .val (.long x4), .second, .val (.long x5), .second, .val (.int ((x0 &&& (7 : Int32)) % (6 : Int32))), .val (.long (own_f0_1 x0 x1 x2 x3 x4 x5)), .second, .val (.long (own_f0_2 x0 x1 x2 x3 x4 x5)), .second, .val (.long (own_f0_3 x0 x1 x2 x3 x4 x5)), .second, .val (.long (own_f0_4 x0 x1 x2 x3 x4 x5)), .second, .val (.long (own_f0_5 x0 x1 x2 x3 x4 x5)), .second, .val (.ref b6), .val (.int (own_f0_6 x0 x1 x2 x3 x4 x5)), .unset, .unset, .unset] [(.ref a12)]))
                    refine own_Goes.step (fun tq kq => XS.dup X21.here hx rfl (hb hby at_166) rfl rfl kq) ?_
                    show own_Goes p e below s (own_F0 Z x0 x1 x2 x3 x4 x5 n0 h0) room_1.cells room_1.slots (T21.setTop (mkF m 167 #[.val (.int x0), .val (.long x1), .second, .val (.long x2), .second, .val (.long x3), .second, .val (.long x4), .second, .val (.long x5), .second, .val (.int ((x0 &&& (7 : Int32)) % (6 : Int32))), .val (.long (own_f0_1 x0 x1 x2 x3 x4 x5)), .second, .val (.long (own_f0_2 x0 x1 x2 x3 x4 x5)), .second, .val (.long (own_f0_3 x0 x1 x2 x3 x4 x5)), .second, .val (.long (own_f0_4 x0 x1 x2 x3 x4 x5)), .second, .val (.long (own_f0_5 x0 x1 x2 x3 x4 x5)), .second, .val (.ref b6), .val (.int (own_f0_6 x0 x1 x2 x3 x4 x5)), .unset, .unset, .unset] [(.ref a12), (.ref a12)]))
                    refine own_Goes.step (fun tq kq => XT.iconstV X21.here hx rfl (2 : Int32) (hb hby at_167) (by decide) kq) ?_
                    show own_Goes p e below s (own_F0 Z x0 x1 x2 x3 x4 x5 n0 h0) room_1.cells room_1.slots (T21.setTop (mkF m 168 #[.val (.int x0), .val (.long x1), .second, .val (.long x2), .second, .val (.long x3), .second, .val (.long x4), .second, .val (.long x5), .second, .val (.int ((x0 &&& (7 : Int32)) % (6 : Int32))), .val (.long (own_f0_1 x0 x1 x2 x3 x4 x5)), .second, .val (.long (own_f0_2 x0 x1 x2 x3 x4 x5)), .second, .val (.long (own_f0_3 x0 x1 x2 x3 x4 x5)), .second, .val (.long (own_f0_4 x0 x1 x2 x3 x4 x5)), .second, .val (.long (own_f0_5 x0 x1 x2 x3 x4 x5)), .second, .val (.ref b6), .val (.int (own_f0_6 x0 x1 x2 x3 x4 x5)), .unset, .unset, .unset] [(.int (2 : Int32)), (.ref a12), (.ref a12)]))
                    refine own_Goes.step (fun tq kq => XT.lload X21.here hx rfl (hb hby at_168) rfl kq) ?_
                    show own_Goes p e below s (own_F0 Z x0 x1 x2 x3 x4 x5 n0 h0) room_1.cells room_1.slots (T21.setTop (mkF m 170 #[.val (.int x0), .val (.long x1), .second, .val (.long x2), .second, .val (.long x3), .second, .val (.long x4), .second, .val (.long x5), .second, .val (.int ((x0 &&& (7 : Int32)) % (6 : Int32))), .val (.long (own_f0_1 x0 x1 x2 x3 x4 x5)), .second, .val (.long (own_f0_2 x0 x1 x2 x3 x4 x5)), .second, .val (.long (own_f0_3 x0 x1 x2 x3 x4 x5)), .second, .val (.long (own_f0_4 x0 x1 x2 x3 x4 x5)), .second, .val (.long (own_f0_5 x0 x1 x2 x3 x4 x5)), .second, .val (.ref b6), .val (.int (own_f0_6 x0 x1 x2 x3 x4 x5)), .unset, .unset, .unset] [(.long (own_f0_3 x0 x1 x2 x3 x4 x5)), (.int (2 : Int32)), (.ref a12), (.ref a12)]))
                    obtain ⟨T27, h27, X27, e27, W27, st27⟩ := own_last X21 hx hZ e21 f23 (i := 2) rfl (by decide) (g := (mkF m 170 #[.val (.int x0), .val (.long x1), .second, .val (.long x2), .second, .val (.long x3), .second, .val (.long x4), .second, .val (.long x5), .second, .val (.int ((x0 &&& (7 : Int32)) % (6 : Int32))), .val (.long (own_f0_1 x0 x1 x2 x3 x4 x5)), .second, .val (.long (own_f0_2 x0 x1 x2 x3 x4 x5)), .second, .val (.long (own_f0_3 x0 x1 x2 x3 x4 x5)), .second, .val (.long (own_f0_4 x0 x1 x2 x3 x4 x5)), .second, .val (.long (own_f0_5 x0 x1 x2 x3 x4 x5)), .second, .val (.ref b6), .val (.int (own_f0_6 x0 x1 x2 x3 x4 x5)), .unset, .unset, .unset] [(.long (own_f0_3 x0 x1 x2 x3 x4 x5)), (.int (2 : Int32)), (.ref a12), (.ref a12)])) rfl rfl (hb hby at_170)
                    refine own_Goes.step st27 ?_
                    have f28 := f22.other W27 ne13
                    have f29 : own_Ar Z h27 a12 .long 5 (fun uu => .long ((own_f0_9 x0 x1 x2 x3 x4 x5) uu)) := (f23.set W27).congr fun j _ => by dsimp only [own_f0_9]; exact (apply_ite Value.long _ _ _).symm
                    have K30 := K24.wr W27 (Or.inr Kh12)
                    have N31 := Fr.snoc X27 N25 ga12
                    have Z32 : n0 ≤ h27.size := Nat.le_trans Z26 (Keep.of_wr W27).1
                    show own_Goes p e below s (own_F0 Z x0 x1 x2 x3 x4 x5 n0 h0) room_1.cells room_1.slots (T27.setTop (mkF m 171 #[.val (.int x0), .val (.long x1), .second, .val (.long x2), .second, .val (.long x3), .second, .val (.long x4), .second, .val (.long x5), .second, .val (.int ((x0 &&& (7 : Int32)) % (6 : Int32))), .val (.long (own_f0_1 x0 x1 x2 x3 x4 x5)), .second, .val (.long (own_f0_2 x0 x1 x2 x3 x4 x5)), .second, .val (.long (own_f0_3 x0 x1 x2 x3 x4 x5)), .second, .val (.long (own_f0_4 x0 x1 x2 x3 x4 x5)), .second, .val (.long (own_f0_5 x0 x1 x2 x3 x4 x5)), .second, .val (.ref b6), .val (.int (own_f0_6 x0 x1 x2 x3 x4 x5)), .unset, .unset, .unset] [(.ref a12)]))
                    refine own_Goes.step (fun tq kq => XS.dup X27.here hx rfl (hb hby at_171) rfl rfl kq) ?_
                    show own_Goes p e below s (own_F0 Z x0 x1 x2 x3 x4 x5 n0 h0) room_1.cells room_1.slots (T27.setTop (mkF m 172 #[.val (.int x0), .val (.long x1), .second, .val (.long x2), .second, .val (.long x3), .second, .val (.long x4), .second, .val (.long x5), .second, .val (.int ((x0 &&& (7 : Int32)) % (6 : Int32))), .val (.long (own_f0_1 x0 x1 x2 x3 x4 x5)), .second, .val (.long (own_f0_2 x0 x1 x2 x3 x4 x5)), .second, .val (.long (own_f0_3 x0 x1 x2 x3 x4 x5)), .second, .val (.long (own_f0_4 x0 x1 x2 x3 x4 x5)), .second, .val (.long (own_f0_5 x0 x1 x2 x3 x4 x5)), .second, .val (.ref b6), .val (.int (own_f0_6 x0 x1 x2 x3 x4 x5)), .unset, .unset, .unset] [(.ref a12), (.ref a12)]))
                    refine own_Goes.step (fun tq kq => XT.iconstV X27.here hx rfl (3 : Int32) (hb hby at_172) (by decide) kq) ?_
                    show own_Goes p e below s (own_F0 Z x0 x1 x2 x3 x4 x5 n0 h0) room_1.cells room_1.slots (T27.setTop (mkF m 173 #[.val (.int x0), .val (.long x1), .second, .val (.long x2), .second, .val (.long x3), .second, .val (.long x4), .second, .val (.long x5), .second, .val (.int ((x0 &&& (7 : Int32)) % (6 : Int32))), .val (.long (own_f0_1 x0 x1 x2 x3 x4 x5)), .second, .val (.long (own_f0_2 x0 x1 x2 x3 x4 x5)), .second, .val (.long (own_f0_3 x0 x1 x2 x3 x4 x5)), .second, .val (.long (own_f0_4 x0 x1 x2 x3 x4 x5)), .second, .val (.long (own_f0_5 x0 x1 x2 x3 x4 x5)), .second, .val (.ref b6), .val (.int (own_f0_6 x0 x1 x2 x3 x4 x5)), .unset, .unset, .unset] [(.int (3 : Int32)), (.ref a12), (.ref a12)]))
                    refine own_Goes.step (fun tq kq => XT.lload X27.here hx rfl (hb hby at_173) rfl kq) ?_
                    show own_Goes p e below s (own_F0 Z x0 x1 x2 x3 x4 x5 n0 h0) room_1.cells room_1.slots (T27.setTop (mkF m 175 #[.val (.int x0), .val (.long x1), .second, .val (.long x2), .second, .val (.long x3), .second, .val (.long x4), .second, .val (.long x5), .second, .val (.int ((x0 &&& (7 : Int32)) % (6 : Int32))), .val (.long (own_f0_1 x0 x1 x2 x3 x4 x5)), .second, .val (.long (own_f0_2 x0 x1 x2 x3 x4 x5)), .second, .val (.long (own_f0_3 x0 x1 x2 x3 x4 x5)), .second, .val (.long (own_f0_4 x0 x1 x2 x3 x4 x5)), .second, .val (.long (own_f0_5 x0 x1 x2 x3 x4 x5)), .second, .val (.ref b6), .val (.int (own_f0_6 x0 x1 x2 x3 x4 x5)), .unset, .unset, .unset] [(.long (own_f0_4 x0 x1 x2 x3 x4 x5)), (.int (3 : Int32)), (.ref a12), (.ref a12)]))
                    obtain ⟨T33, h33, X33, e33, W33, st33⟩ := own_last X27 hx hZ e27 f29 (i := 3) rfl (by decide) (g := (mkF m 175 #[.val (.int x0), .val (.long x1), .second, .val (.long x2), .second, .val (.long x3), .second, .val (.long x4), .second, .val (.long x5), .second, .val (.int ((x0 &&& (7 : Int32)) % (6 : Int32))), .val (.long (own_f0_1 x0 x1 x2 x3 x4 x5)), .second, .val (.long (own_f0_2 x0 x1 x2 x3 x4 x5)), .second, .val (.long (own_f0_3 x0 x1 x2 x3 x4 x5)), .second, .val (.long (own_f0_4 x0 x1 x2 x3 x4 x5)), .second, .val (.long (own_f0_5 x0 x1 x2 x3 x4 x5)), .second, .val (.ref b6), .val (.int (own_f0_6 x0 x1 x2 x3 x4 x5)), .unset, .unset, .unset] [(.long (own_f0_4 x0 x1 x2 x3 x4 x5)), (.int (3 : Int32)), (.ref a12), (.ref a12)])) rfl rfl (hb hby at_175)
                    refine own_Goes.step st33 ?_
                    have f34 := f28.other W33 ne13
                    have f35 : own_Ar Z h33 a12 .long 5 (fun uu => .long ((own_f0_10 x0 x1 x2 x3 x4 x5) uu)) := (f29.set W33).congr fun j _ => by dsimp only [own_f0_10]; exact (apply_ite Value.long _ _ _).symm
                    have K36 := K30.wr W33 (Or.inr Kh12)
                    have N37 := Fr.snoc X33 N31 ga12
                    have Z38 : n0 ≤ h33.size := Nat.le_trans Z32 (Keep.of_wr W33).1
                    show own_Goes p e below s (own_F0 Z x0 x1 x2 x3 x4 x5 n0 h0) room_1.cells room_1.slots (T33.setTop (mkF m 176 #[.val (.int x0), .val (.long x1), .second, .val (.long x2), .second, .val (.long x3), .second, .val (.long x4), .second, .val (.long x5), .second, .val (.int ((x0 &&& (7 : Int32)) % (6 : Int32))), .val (.long (own_f0_1 x0 x1 x2 x3 x4 x5)), .second, .val (.long (own_f0_2 x0 x1 x2 x3 x4 x5)), .second, .val (.long (own_f0_3 x0 x1 x2 x3 x4 x5)), .second, .val (.long (own_f0_4 x0 x1 x2 x3 x4 x5)), .second, .val (.long (own_f0_5 x0 x1 x2 x3 x4 x5)), .second, .val (.ref b6), .val (.int (own_f0_6 x0 x1 x2 x3 x4 x5)), .unset, .unset, .unset] [(.ref a12)]))
                    refine own_Goes.step (fun tq kq => XS.dup X33.here hx rfl (hb hby at_176) rfl rfl kq) ?_
                    show own_Goes p e below s (own_F0 Z x0 x1 x2 x3 x4 x5 n0 h0) room_1.cells room_1.slots (T33.setTop (mkF m 177 #[.val (.int x0), .val (.long x1), .second, .val (.long x2), .second, .val (.long x3), .second, .val (.long x4), .second, .val (.long x5), .second, .val (.int ((x0 &&& (7 : Int32)) % (6 : Int32))), .val (.long (own_f0_1 x0 x1 x2 x3 x4 x5)), .second, .val (.long (own_f0_2 x0 x1 x2 x3 x4 x5)), .second, .val (.long (own_f0_3 x0 x1 x2 x3 x4 x5)), .second, .val (.long (own_f0_4 x0 x1 x2 x3 x4 x5)), .second, .val (.long (own_f0_5 x0 x1 x2 x3 x4 x5)), .second, .val (.ref b6), .val (.int (own_f0_6 x0 x1 x2 x3 x4 x5)), .unset, .unset, .unset] [(.ref a12), (.ref a12)]))
                    refine own_Goes.step (fun tq kq => XT.iconstV X33.here hx rfl (4 : Int32) (hb hby at_177) (by decide) kq) ?_
                    show own_Goes p e below s (own_F0 Z x0 x1 x2 x3 x4 x5 n0 h0) room_1.cells room_1.slots (T33.setTop (mkF m 178 #[.val (.int x0), .val (.long x1), .second, .val (.long x2), .second, .val (.long x3), .second, .val (.long x4), .second, .val (.long x5), .second, .val (.int ((x0 &&& (7 : Int32)) % (6 : Int32))), .val (.long (own_f0_1 x0 x1 x2 x3 x4 x5)), .second, .val (.long (own_f0_2 x0 x1 x2 x3 x4 x5)), .second, .val (.long (own_f0_3 x0 x1 x2 x3 x4 x5)), .second, .val (.long (own_f0_4 x0 x1 x2 x3 x4 x5)), .second, .val (.long (own_f0_5 x0 x1 x2 x3 x4 x5)), .second, .val (.ref b6), .val (.int (own_f0_6 x0 x1 x2 x3 x4 x5)), .unset, .unset, .unset] [(.int (4 : Int32)), (.ref a12), (.ref a12)]))
                    refine own_Goes.step (fun tq kq => XT.lload X33.here hx rfl (hb hby at_178) rfl kq) ?_
                    show own_Goes p e below s (own_F0 Z x0 x1 x2 x3 x4 x5 n0 h0) room_1.cells room_1.slots (T33.setTop (mkF m 180 #[.val (.int x0), .val (.long x1), .second, .val (.long x2), .second, .val (.long x3), .second, .val (.long x4), .second, .val (.long x5), .second, .val (.int ((x0 &&& (7 : Int32)) % (6 : Int32))), .val (.long (own_f0_1 x0 x1 x2 x3 x4 x5)), .second, .val (.long (own_f0_2 x0 x1 x2 x3 x4 x5)), .second, .val (.long (own_f0_3 x0 x1 x2 x3 x4 x5)), .second, .val (.long (own_f0_4 x0 x1 x2 x3 x4 x5)), .second, .val (.long (own_f0_5 x0 x1 x2 x3 x4 x5)), .second, .val (.ref b6), .val (.int (own_f0_6 x0 x1 x2 x3 x4 x5)), .unset, .unset, .unset] [(.long (own_f0_5 x0 x1 x2 x3 x4 x5)), (.int (4 : Int32)), (.ref a12), (.ref a12)]))
                    obtain ⟨T39, h39, X39, e39, W39, st39⟩ := own_last X33 hx hZ e33 f35 (i := 4) rfl (by decide) (g := (mkF m 180 #[.val (.int x0), .val (.long x1), .second, .val (.long x2), .second, .val (.long x3), .second, .val (.long x4), .second, .val (.long x5), .second, .val (.int ((x0 &&& (7 : Int32)) % (6 : Int32))), .val (.long (own_f0_1 x0 x1 x2 x3 x4 x5)), .second, .val (.long (own_f0_2 x0 x1 x2 x3 x4 x5)), .second, .val (.long (own_f0_3 x0 x1 x2 x3 x4 x5)), .second, .val (.long (own_f0_4 x0 x1 x2 x3 x4 x5)), .second, .val (.long (own_f0_5 x0 x1 x2 x3 x4 x5)), .second, .val (.ref b6), .val (.int (own_f0_6 x0 x1 x2 x3 x4 x5)), .unset, .unset, .unset] [(.long (own_f0_5 x0 x1 x2 x3 x4 x5)), (.int (4 : Int32)), (.ref a12), (.ref a12)])) rfl rfl (hb hby at_180)
                    refine own_Goes.step st39 ?_
                    have f40 := f34.other W39 ne13
                    have f41 : own_Ar Z h39 a12 .long 5 (fun uu => .long ((own_f0_11 x0 x1 x2 x3 x4 x5) uu)) := (f35.set W39).congr fun j _ => by dsimp only [own_f0_11]; exact (apply_ite Value.long _ _ _).symm
                    have K42 := K36.wr W39 (Or.inr Kh12)
                    have N43 := Fr.snoc X39 N37 ga12
                    have Z44 : n0 ≤ h39.size := Nat.le_trans Z38 (Keep.of_wr W39).1
                    show own_Goes p e below s (own_F0 Z x0 x1 x2 x3 x4 x5 n0 h0) room_1.cells room_1.slots (T39.setTop (mkF m 181 #[.val (.int x0), .val (.long x1), .second, .val (.long x2), .second, .val (.long x3), .second, .val (.long x4), .second, .val (.long x5), .second, .val (.int ((x0 &&& (7 : Int32)) % (6 : Int32))), .val (.long (own_f0_1 x0 x1 x2 x3 x4 x5)), .second, .val (.long (own_f0_2 x0 x1 x2 x3 x4 x5)), .second, .val (.long (own_f0_3 x0 x1 x2 x3 x4 x5)), .second, .val (.long (own_f0_4 x0 x1 x2 x3 x4 x5)), .second, .val (.long (own_f0_5 x0 x1 x2 x3 x4 x5)), .second, .val (.ref b6), .val (.int (own_f0_6 x0 x1 x2 x3 x4 x5)), .unset, .unset, .unset] [(.ref a12)]))
                    refine own_Goes.step (fun tq kq => XS.astore X39.here hx rfl (hb hby at_181) rfl rfl (l' := #[.val (.int x0), .val (.long x1), .second, .val (.long x2), .second, .val (.long x3), .second, .val (.long x4), .second, .val (.long x5), .second, .val (.int ((x0 &&& (7 : Int32)) % (6 : Int32))), .val (.long (own_f0_1 x0 x1 x2 x3 x4 x5)), .second, .val (.long (own_f0_2 x0 x1 x2 x3 x4 x5)), .second, .val (.long (own_f0_3 x0 x1 x2 x3 x4 x5)), .second, .val (.long (own_f0_4 x0 x1 x2 x3 x4 x5)), .second, .val (.long (own_f0_5 x0 x1 x2 x3 x4 x5)), .second, .val (.ref b6), .val (.int (own_f0_6 x0 x1 x2 x3 x4 x5)), .val (.ref a12), .unset, .unset]) rfl kq) ?_
                    show own_Goes p e below s (own_F0 Z x0 x1 x2 x3 x4 x5 n0 h0) room_1.cells room_1.slots (T39.setTop (mkF m 183 #[.val (.int x0), .val (.long x1), .second, .val (.long x2), .second, .val (.long x3), .second, .val (.long x4), .second, .val (.long x5), .second, .val (.int ((x0 &&& (7 : Int32)) % (6 : Int32))), .val (.long (own_f0_1 x0 x1 x2 x3 x4 x5)), .second, .val (.long (own_f0_2 x0 x1 x2 x3 x4 x5)), .second, .val (.long (own_f0_3 x0 x1 x2 x3 x4 x5)), .second, .val (.long (own_f0_4 x0 x1 x2 x3 x4 x5)), .second, .val (.long (own_f0_5 x0 x1 x2 x3 x4 x5)), .second, .val (.ref b6), .val (.int (own_f0_6 x0 x1 x2 x3 x4 x5)), .val (.ref a12), .unset, .unset] []))
                    refine own_Goes.step (fun tq kq => XT.iconstV X39.here hx rfl (5 : Int32) (hb hby at_183) (by decide) kq) ?_
                    show own_Goes p e below s (own_F0 Z x0 x1 x2 x3 x4 x5 n0 h0) room_1.cells room_1.slots (T39.setTop (mkF m 184 #[.val (.int x0), .val (.long x1), .second, .val (.long x2), .second, .val (.long x3), .second, .val (.long x4), .second, .val (.long x5), .second, .val (.int ((x0 &&& (7 : Int32)) % (6 : Int32))), .val (.long (own_f0_1 x0 x1 x2 x3 x4 x5)), .second, .val (.long (own_f0_2 x0 x1 x2 x3 x4 x5)), .second, .val (.long (own_f0_3 x0 x1 x2 x3 x4 x5)), .second, .val (.long (own_f0_4 x0 x1 x2 x3 x4 x5)), .second, .val (.long (own_f0_5 x0 x1 x2 x3 x4 x5)), .second, .val (.ref b6), .val (.int (own_f0_6 x0 x1 x2 x3 x4 x5)), .val (.ref a12), .unset, .unset] [(.int (5 : Int32))]))
                    obtain ⟨T45, h45, k45, X45, e45, E45, A45, st45⟩ := newP X39 hx hZ (hw _ (List.mem_of_getElem? (i := 4) rfl)) e39 (g := (mkF m 184 #[.val (.int x0), .val (.long x1), .second, .val (.long x2), .second, .val (.long x3), .second, .val (.long x4), .second, .val (.long x5), .second, .val (.int ((x0 &&& (7 : Int32)) % (6 : Int32))), .val (.long (own_f0_1 x0 x1 x2 x3 x4 x5)), .second, .val (.long (own_f0_2 x0 x1 x2 x3 x4 x5)), .second, .val (.long (own_f0_3 x0 x1 x2 x3 x4 x5)), .second, .val (.long (own_f0_4 x0 x1 x2 x3 x4 x5)), .second, .val (.long (own_f0_5 x0 x1 x2 x3 x4 x5)), .second, .val (.ref b6), .val (.int (own_f0_6 x0 x1 x2 x3 x4 x5)), .val (.ref a12), .unset, .unset] [(.int (5 : Int32))])) rfl (hb hby at_184) rfl (by decide) (cap := 5) (by decide) (by decide) (by decide) (by decide)
                    obtain ⟨a45, g45⟩ : ∃ z, z = h39.size := ⟨_, rfl⟩
                    rw [← g45] at A45 st45
                    have ne46 : b6 ≠ a45 := by rw [g45]; exact Nat.ne_of_lt f40.lt
                    have ne47 : a12 ≠ a45 := by rw [g45]; exact Nat.ne_of_lt f41.lt
                    have f48 := f40.ext E45
                    have f49 := f41.ext E45
                    have r45 : own_Ar Z h45 a45 .long 5 (fun uu => .long ((fun _ => (0 : Int64)) uu)) := own_Ar.new A45
                    have ga45 : n0 ≤ a45 := Nat.le_trans Z44 (Nat.le_of_eq g45.symm)
                    have Z45 : n0 ≤ h45.size := Nat.le_trans Z44 E45.1
                    have K45 := K42.ext E45
                    have Kh45 : h0.size ≤ a45 := Nat.le_trans K42.1 (Nat.le_of_eq g45.symm)
                    refine own_Goes.step st45 ?_
                    show own_Goes p e below s (own_F0 Z x0 x1 x2 x3 x4 x5 n0 h0) room_1.cells room_1.slots (T45.setTop (mkF m 186 #[.val (.int x0), .val (.long x1), .second, .val (.long x2), .second, .val (.long x3), .second, .val (.long x4), .second, .val (.long x5), .second, .val (.int ((x0 &&& (7 : Int32)) % (6 : Int32))), .val (.long (own_f0_1 x0 x1 x2 x3 x4 x5)), .second, .val (.long (own_f0_2 x0 x1 x2 x3 x4 x5)), .second, .val (.long (own_f0_3 x0 x1 x2 x3 x4 x5)), .second, .val (.long (own_f0_4 x0 x1 x2 x3 x4 x5)), .second, .val (.long (own_f0_5 x0 x1 x2 x3 x4 x5)), .second, .val (.ref b6), .val (.int (own_f0_6 x0 x1 x2 x3 x4 x5)), .val (.ref a12), .unset, .unset] [(.ref a45)]))
                    refine own_Goes.step (fun tq kq => XS.astore X45.here hx rfl (hb hby at_186) rfl rfl (l' := #[.val (.int x0), .val (.long x1), .second, .val (.long x2), .second, .val (.long x3), .second, .val (.long x4), .second, .val (.long x5), .second, .val (.int ((x0 &&& (7 : Int32)) % (6 : Int32))), .val (.long (own_f0_1 x0 x1 x2 x3 x4 x5)), .second, .val (.long (own_f0_2 x0 x1 x2 x3 x4 x5)), .second, .val (.long (own_f0_3 x0 x1 x2 x3 x4 x5)), .second, .val (.long (own_f0_4 x0 x1 x2 x3 x4 x5)), .second, .val (.long (own_f0_5 x0 x1 x2 x3 x4 x5)), .second, .val (.ref b6), .val (.int (own_f0_6 x0 x1 x2 x3 x4 x5)), .val (.ref a12), .val (.ref a45), .unset]) rfl kq) ?_
                    show own_Goes p e below s (own_F0 Z x0 x1 x2 x3 x4 x5 n0 h0) room_1.cells room_1.slots (T45.setTop (mkF m 188 #[.val (.int x0), .val (.long x1), .second, .val (.long x2), .second, .val (.long x3), .second, .val (.long x4), .second, .val (.long x5), .second, .val (.int ((x0 &&& (7 : Int32)) % (6 : Int32))), .val (.long (own_f0_1 x0 x1 x2 x3 x4 x5)), .second, .val (.long (own_f0_2 x0 x1 x2 x3 x4 x5)), .second, .val (.long (own_f0_3 x0 x1 x2 x3 x4 x5)), .second, .val (.long (own_f0_4 x0 x1 x2 x3 x4 x5)), .second, .val (.long (own_f0_5 x0 x1 x2 x3 x4 x5)), .second, .val (.ref b6), .val (.int (own_f0_6 x0 x1 x2 x3 x4 x5)), .val (.ref a12), .val (.ref a45), .unset] []))
                    refine own_Goes.step (fun tq kq => XS.aload X45.here hx rfl (hb hby at_188) rfl rfl kq) ?_
                    show own_Goes p e below s (own_F0 Z x0 x1 x2 x3 x4 x5 n0 h0) room_1.cells room_1.slots (T45.setTop (mkF m 190 #[.val (.int x0), .val (.long x1), .second, .val (.long x2), .second, .val (.long x3), .second, .val (.long x4), .second, .val (.long x5), .second, .val (.int ((x0 &&& (7 : Int32)) % (6 : Int32))), .val (.long (own_f0_1 x0 x1 x2 x3 x4 x5)), .second, .val (.long (own_f0_2 x0 x1 x2 x3 x4 x5)), .second, .val (.long (own_f0_3 x0 x1 x2 x3 x4 x5)), .second, .val (.long (own_f0_4 x0 x1 x2 x3 x4 x5)), .second, .val (.long (own_f0_5 x0 x1 x2 x3 x4 x5)), .second, .val (.ref b6), .val (.int (own_f0_6 x0 x1 x2 x3 x4 x5)), .val (.ref a12), .val (.ref a45), .unset] [(.ref a45)]))
                    refine own_Goes.step (fun tq kq => XT.iconstV X45.here hx rfl (4 : Int32) (hb hby at_190) (by decide) kq) ?_
                    show own_Goes p e below s (own_F0 Z x0 x1 x2 x3 x4 x5 n0 h0) room_1.cells room_1.slots (T45.setTop (mkF m 191 #[.val (.int x0), .val (.long x1), .second, .val (.long x2), .second, .val (.long x3), .second, .val (.long x4), .second, .val (.long x5), .second, .val (.int ((x0 &&& (7 : Int32)) % (6 : Int32))), .val (.long (own_f0_1 x0 x1 x2 x3 x4 x5)), .second, .val (.long (own_f0_2 x0 x1 x2 x3 x4 x5)), .second, .val (.long (own_f0_3 x0 x1 x2 x3 x4 x5)), .second, .val (.long (own_f0_4 x0 x1 x2 x3 x4 x5)), .second, .val (.long (own_f0_5 x0 x1 x2 x3 x4 x5)), .second, .val (.ref b6), .val (.int (own_f0_6 x0 x1 x2 x3 x4 x5)), .val (.ref a12), .val (.ref a45), .unset] [(.int (4 : Int32)), (.ref a45)]))
                    refine own_Goes.step (fun tq kq => XT.lload X45.here hx rfl (hb hby at_191) rfl kq) ?_
                    show own_Goes p e below s (own_F0 Z x0 x1 x2 x3 x4 x5 n0 h0) room_1.cells room_1.slots (T45.setTop (mkF m 193 #[.val (.int x0), .val (.long x1), .second, .val (.long x2), .second, .val (.long x3), .second, .val (.long x4), .second, .val (.long x5), .second, .val (.int ((x0 &&& (7 : Int32)) % (6 : Int32))), .val (.long (own_f0_1 x0 x1 x2 x3 x4 x5)), .second, .val (.long (own_f0_2 x0 x1 x2 x3 x4 x5)), .second, .val (.long (own_f0_3 x0 x1 x2 x3 x4 x5)), .second, .val (.long (own_f0_4 x0 x1 x2 x3 x4 x5)), .second, .val (.long (own_f0_5 x0 x1 x2 x3 x4 x5)), .second, .val (.ref b6), .val (.int (own_f0_6 x0 x1 x2 x3 x4 x5)), .val (.ref a12), .val (.ref a45), .unset] [(.long (own_f0_5 x0 x1 x2 x3 x4 x5)), (.int (4 : Int32)), (.ref a45)]))
                    obtain ⟨T50, h50, X50, e50, W50, st50⟩ := own_last X45 hx hZ e45 r45 (i := 4) rfl (by decide) (g := (mkF m 193 #[.val (.int x0), .val (.long x1), .second, .val (.long x2), .second, .val (.long x3), .second, .val (.long x4), .second, .val (.long x5), .second, .val (.int ((x0 &&& (7 : Int32)) % (6 : Int32))), .val (.long (own_f0_1 x0 x1 x2 x3 x4 x5)), .second, .val (.long (own_f0_2 x0 x1 x2 x3 x4 x5)), .second, .val (.long (own_f0_3 x0 x1 x2 x3 x4 x5)), .second, .val (.long (own_f0_4 x0 x1 x2 x3 x4 x5)), .second, .val (.long (own_f0_5 x0 x1 x2 x3 x4 x5)), .second, .val (.ref b6), .val (.int (own_f0_6 x0 x1 x2 x3 x4 x5)), .val (.ref a12), .val (.ref a45), .unset] [(.long (own_f0_5 x0 x1 x2 x3 x4 x5)), (.int (4 : Int32)), (.ref a45)])) rfl rfl (hb hby at_193)
                    refine own_Goes.step st50 ?_
                    have f51 := f48.other W50 ne46
                    have f52 := f49.other W50 ne47
                    have f53 : own_Ar Z h50 a45 .long 5 (fun uu => .long ((own_f0_12 x0 x1 x2 x3 x4 x5) uu)) := (r45.set W50).congr fun j _ => by dsimp only [own_f0_12]; exact (apply_ite Value.long _ _ _).symm
                    have K54 := K45.wr W50 (Or.inr Kh45)
                    have N55 := Fr.snoc X50 N43 ga45
                    have Z56 : n0 ≤ h50.size := Nat.le_trans Z45 (Keep.of_wr W50).1
                    show own_Goes p e below s (own_F0 Z x0 x1 x2 x3 x4 x5 n0 h0) room_1.cells room_1.slots (T50.setTop (mkF m 194 #[.val (.int x0), .val (.long x1), .second, .val (.long x2), .second, .val (.long x3), .second, .val (.long x4), .second, .val (.long x5), .second, .val (.int ((x0 &&& (7 : Int32)) % (6 : Int32))), .val (.long (own_f0_1 x0 x1 x2 x3 x4 x5)), .second, .val (.long (own_f0_2 x0 x1 x2 x3 x4 x5)), .second, .val (.long (own_f0_3 x0 x1 x2 x3 x4 x5)), .second, .val (.long (own_f0_4 x0 x1 x2 x3 x4 x5)), .second, .val (.long (own_f0_5 x0 x1 x2 x3 x4 x5)), .second, .val (.ref b6), .val (.int (own_f0_6 x0 x1 x2 x3 x4 x5)), .val (.ref a12), .val (.ref a45), .unset] []))
                    refine own_Goes.step (fun tq kq => XS.aload X50.here hx rfl (hb hby at_194) rfl rfl kq) ?_
                    show own_Goes p e below s (own_F0 Z x0 x1 x2 x3 x4 x5 n0 h0) room_1.cells room_1.slots (T50.setTop (mkF m 196 #[.val (.int x0), .val (.long x1), .second, .val (.long x2), .second, .val (.long x3), .second, .val (.long x4), .second, .val (.long x5), .second, .val (.int ((x0 &&& (7 : Int32)) % (6 : Int32))), .val (.long (own_f0_1 x0 x1 x2 x3 x4 x5)), .second, .val (.long (own_f0_2 x0 x1 x2 x3 x4 x5)), .second, .val (.long (own_f0_3 x0 x1 x2 x3 x4 x5)), .second, .val (.long (own_f0_4 x0 x1 x2 x3 x4 x5)), .second, .val (.long (own_f0_5 x0 x1 x2 x3 x4 x5)), .second, .val (.ref b6), .val (.int (own_f0_6 x0 x1 x2 x3 x4 x5)), .val (.ref a12), .val (.ref a45), .unset] [(.ref a45)]))
                    refine own_Goes.step (fun tq kq => XT.iconstV X50.here hx rfl (3 : Int32) (hb hby at_196) (by decide) kq) ?_
                    show own_Goes p e below s (own_F0 Z x0 x1 x2 x3 x4 x5 n0 h0) room_1.cells room_1.slots (T50.setTop (mkF m 197 #[.val (.int x0), .val (.long x1), .second, .val (.long x2), .second, .val (.long x3), .second, .val (.long x4), .second, .val (.long x5), .second, .val (.int ((x0 &&& (7 : Int32)) % (6 : Int32))), .val (.long (own_f0_1 x0 x1 x2 x3 x4 x5)), .second, .val (.long (own_f0_2 x0 x1 x2 x3 x4 x5)), .second, .val (.long (own_f0_3 x0 x1 x2 x3 x4 x5)), .second, .val (.long (own_f0_4 x0 x1 x2 x3 x4 x5)), .second, .val (.long (own_f0_5 x0 x1 x2 x3 x4 x5)), .second, .val (.ref b6), .val (.int (own_f0_6 x0 x1 x2 x3 x4 x5)), .val (.ref a12), .val (.ref a45), .unset] [(.int (3 : Int32)), (.ref a45)]))
                    refine own_Goes.step (fun tq kq => XT.lload X50.here hx rfl (hb hby at_197) rfl kq) ?_
                    show own_Goes p e below s (own_F0 Z x0 x1 x2 x3 x4 x5 n0 h0) room_1.cells room_1.slots (T50.setTop (mkF m 199 #[.val (.int x0), .val (.long x1), .second, .val (.long x2), .second, .val (.long x3), .second, .val (.long x4), .second, .val (.long x5), .second, .val (.int ((x0 &&& (7 : Int32)) % (6 : Int32))), .val (.long (own_f0_1 x0 x1 x2 x3 x4 x5)), .second, .val (.long (own_f0_2 x0 x1 x2 x3 x4 x5)), .second, .val (.long (own_f0_3 x0 x1 x2 x3 x4 x5)), .second, .val (.long (own_f0_4 x0 x1 x2 x3 x4 x5)), .second, .val (.long (own_f0_5 x0 x1 x2 x3 x4 x5)), .second, .val (.ref b6), .val (.int (own_f0_6 x0 x1 x2 x3 x4 x5)), .val (.ref a12), .val (.ref a45), .unset] [(.long (own_f0_4 x0 x1 x2 x3 x4 x5)), (.int (3 : Int32)), (.ref a45)]))
                    refine own_Goes.step (fun tq kq => XS.aload X50.here hx rfl (hb hby at_199) rfl rfl kq) ?_
                    show own_Goes p e below s (own_F0 Z x0 x1 x2 x3 x4 x5 n0 h0) room_1.cells room_1.slots (T50.setTop (mkF m 201 #[.val (.int x0), .val (.long x1), .second, .val (.long x2), .second, .val (.long x3), .second, .val (.long x4), .second, .val (.long x5), .second, .val (.int ((x0 &&& (7 : Int32)) % (6 : Int32))), .val (.long (own_f0_1 x0 x1 x2 x3 x4 x5)), .second, .val (.long (own_f0_2 x0 x1 x2 x3 x4 x5)), .second, .val (.long (own_f0_3 x0 x1 x2 x3 x4 x5)), .second, .val (.long (own_f0_4 x0 x1 x2 x3 x4 x5)), .second, .val (.long (own_f0_5 x0 x1 x2 x3 x4 x5)), .second, .val (.ref b6), .val (.int (own_f0_6 x0 x1 x2 x3 x4 x5)), .val (.ref a12), .val (.ref a45), .unset] [(.ref a45), (.long (own_f0_4 x0 x1 x2 x3 x4 x5)), (.int (3 : Int32)), (.ref a45)]))
                    refine own_Goes.step (fun tq kq => XT.iconstV X50.here hx rfl (4 : Int32) (hb hby at_201) (by decide) kq) ?_
                    show own_Goes p e below s (own_F0 Z x0 x1 x2 x3 x4 x5 n0 h0) room_1.cells room_1.slots (T50.setTop (mkF m 202 #[.val (.int x0), .val (.long x1), .second, .val (.long x2), .second, .val (.long x3), .second, .val (.long x4), .second, .val (.long x5), .second, .val (.int ((x0 &&& (7 : Int32)) % (6 : Int32))), .val (.long (own_f0_1 x0 x1 x2 x3 x4 x5)), .second, .val (.long (own_f0_2 x0 x1 x2 x3 x4 x5)), .second, .val (.long (own_f0_3 x0 x1 x2 x3 x4 x5)), .second, .val (.long (own_f0_4 x0 x1 x2 x3 x4 x5)), .second, .val (.long (own_f0_5 x0 x1 x2 x3 x4 x5)), .second, .val (.ref b6), .val (.int (own_f0_6 x0 x1 x2 x3 x4 x5)), .val (.ref a12), .val (.ref a45), .unset] [(.int (4 : Int32)), (.ref a45), (.long (own_f0_4 x0 x1 x2 x3 x4 x5)), (.int (3 : Int32)), (.ref a45)]))
                    refine own_Goes.step (own_lald X50 hx hZ e50 f53 (i := 4) rfl (by decide) (v := (.long ((own_f0_12 x0 x1 x2 x3 x4 x5) 4))) rfl (g := (mkF m 202 #[.val (.int x0), .val (.long x1), .second, .val (.long x2), .second, .val (.long x3), .second, .val (.long x4), .second, .val (.long x5), .second, .val (.int ((x0 &&& (7 : Int32)) % (6 : Int32))), .val (.long (own_f0_1 x0 x1 x2 x3 x4 x5)), .second, .val (.long (own_f0_2 x0 x1 x2 x3 x4 x5)), .second, .val (.long (own_f0_3 x0 x1 x2 x3 x4 x5)), .second, .val (.long (own_f0_4 x0 x1 x2 x3 x4 x5)), .second, .val (.long (own_f0_5 x0 x1 x2 x3 x4 x5)), .second, .val (.ref b6), .val (.int (own_f0_6 x0 x1 x2 x3 x4 x5)), .val (.ref a12), .val (.ref a45), .unset] [(.int (4 : Int32)), (.ref a45), (.long (own_f0_4 x0 x1 x2 x3 x4 x5)), (.int (3 : Int32)), (.ref a45)])) rfl rfl (hb hby at_202)) ?_
                    show own_Goes p e below s (own_F0 Z x0 x1 x2 x3 x4 x5 n0 h0) room_1.cells room_1.slots (T50.setTop (mkF m 203 #[.val (.int x0), .val (.long x1), .second, .val (.long x2), .second, .val (.long x3), .second, .val (.long x4), .second, .val (.long x5), .second, .val (.int ((x0 &&& (7 : Int32)) % (6 : Int32))), .val (.long (own_f0_1 x0 x1 x2 x3 x4 x5)), .second, .val (.long (own_f0_2 x0 x1 x2 x3 x4 x5)), .second, .val (.long (own_f0_3 x0 x1 x2 x3 x4 x5)), .second, .val (.long (own_f0_4 x0 x1 x2 x3 x4 x5)), .second, .val (.long (own_f0_5 x0 x1 x2 x3 x4 x5)), .second, .val (.ref b6), .val (.int (own_f0_6 x0 x1 x2 x3 x4 x5)), .val (.ref a12), .val (.ref a45), .unset] [(.long ((own_f0_12 x0 x1 x2 x3 x4 x5) 4)), (.long (own_f0_4 x0 x1 x2 x3 x4 x5)), (.int (3 : Int32)), (.ref a45)]))
                    refine own_Goes.step (fun tq kq => XT.ladd X50.here hx rfl (hb hby at_203) rfl kq) ?_
                    show own_Goes p e below s (own_F0 Z x0 x1 x2 x3 x4 x5 n0 h0) room_1.cells room_1.slots (T50.setTop (mkF m 204 #[.val (.int x0), .val (.long x1), .second, .val (.long x2), .second, .val (.long x3), .second, .val (.long x4), .second, .val (.long x5), .second, .val (.int ((x0 &&& (7 : Int32)) % (6 : Int32))), .val (.long (own_f0_1 x0 x1 x2 x3 x4 x5)), .second, .val (.long (own_f0_2 x0 x1 x2 x3 x4 x5)), .second, .val (.long (own_f0_3 x0 x1 x2 x3 x4 x5)), .second, .val (.long (own_f0_4 x0 x1 x2 x3 x4 x5)), .second, .val (.long (own_f0_5 x0 x1 x2 x3 x4 x5)), .second, .val (.ref b6), .val (.int (own_f0_6 x0 x1 x2 x3 x4 x5)), .val (.ref a12), .val (.ref a45), .unset] [(.long ((own_f0_4 x0 x1 x2 x3 x4 x5) + ((own_f0_12 x0 x1 x2 x3 x4 x5) 4))), (.int (3 : Int32)), (.ref a45)]))
                    obtain ⟨T58, h58, X58, e58, W58, st58⟩ := own_last X50 hx hZ e50 f53 (i := 3) rfl (by decide) (g := (mkF m 204 #[.val (.int x0), .val (.long x1), .second, .val (.long x2), .second, .val (.long x3), .second, .val (.long x4), .second, .val (.long x5), .second, .val (.int ((x0 &&& (7 : Int32)) % (6 : Int32))), .val (.long (own_f0_1 x0 x1 x2 x3 x4 x5)), .second, .val (.long (own_f0_2 x0 x1 x2 x3 x4 x5)), .second, .val (.long (own_f0_3 x0 x1 x2 x3 x4 x5)), .second, .val (.long (own_f0_4 x0 x1 x2 x3 x4 x5)), .second, .val (.long (own_f0_5 x0 x1 x2 x3 x4 x5)), .second, .val (.ref b6), .val (.int (own_f0_6 x0 x1 x2 x3 x4 x5)), .val (.ref a12), .val (.ref a45), .unset] [(.long ((own_f0_4 x0 x1 x2 x3 x4 x5) + ((own_f0_12 x0 x1 x2 x3 x4 x5) 4))), (.int (3 : Int32)), (.ref a45)])) rfl rfl (hb hby at_204)
                    refine own_Goes.step st58 ?_
                    have f59 := f51.other W58 ne46
                    have f60 := f52.other W58 ne47
                    have f61 : own_Ar Z h58 a45 .long 5 (fun uu => .long ((own_f0_13 x0 x1 x2 x3 x4 x5) uu)) := (f53.set W58).congr fun j _ => by dsimp only [own_f0_13]; exact (apply_ite Value.long _ _ _).symm
                    have K62 := K54.wr W58 (Or.inr Kh45)
                    have N63 := Fr.snoc X58 N55 ga45
                    have Z64 : n0 ≤ h58.size := Nat.le_trans Z56 (Keep.of_wr W58).1
                    show own_Goes p e below s (own_F0 Z x0 x1 x2 x3 x4 x5 n0 h0) room_1.cells room_1.slots (T58.setTop (mkF m 205 #[.val (.int x0), .val (.long x1), .second, .val (.long x2), .second, .val (.long x3), .second, .val (.long x4), .second, .val (.long x5), .second, .val (.int ((x0 &&& (7 : Int32)) % (6 : Int32))), .val (.long (own_f0_1 x0 x1 x2 x3 x4 x5)), .second, .val (.long (own_f0_2 x0 x1 x2 x3 x4 x5)), .second, .val (.long (own_f0_3 x0 x1 x2 x3 x4 x5)), .second, .val (.long (own_f0_4 x0 x1 x2 x3 x4 x5)), .second, .val (.long (own_f0_5 x0 x1 x2 x3 x4 x5)), .second, .val (.ref b6), .val (.int (own_f0_6 x0 x1 x2 x3 x4 x5)), .val (.ref a12), .val (.ref a45), .unset] []))
                    refine own_Goes.step (fun tq kq => XS.aload X58.here hx rfl (hb hby at_205) rfl rfl kq) ?_
                    show own_Goes p e below s (own_F0 Z x0 x1 x2 x3 x4 x5 n0 h0) room_1.cells room_1.slots (T58.setTop (mkF m 207 #[.val (.int x0), .val (.long x1), .second, .val (.long x2), .second, .val (.long x3), .second, .val (.long x4), .second, .val (.long x5), .second, .val (.int ((x0 &&& (7 : Int32)) % (6 : Int32))), .val (.long (own_f0_1 x0 x1 x2 x3 x4 x5)), .second, .val (.long (own_f0_2 x0 x1 x2 x3 x4 x5)), .second, .val (.long (own_f0_3 x0 x1 x2 x3 x4 x5)), .second, .val (.long (own_f0_4 x0 x1 x2 x3 x4 x5)), .second, .val (.long (own_f0_5 x0 x1 x2 x3 x4 x5)), .second, .val (.ref b6), .val (.int (own_f0_6 x0 x1 x2 x3 x4 x5)), .val (.ref a12), .val (.ref a45), .unset] [(.ref a45)]))
                    refine own_Goes.step (fun tq kq => XT.iconstV X58.here hx rfl (2 : Int32) (hb hby at_207) (by decide) kq) ?_
                    show own_Goes p e below s (own_F0 Z x0 x1 x2 x3 x4 x5 n0 h0) room_1.cells room_1.slots (T58.setTop (mkF m 208 #[.val (.int x0), .val (.long x1), .second, .val (.long x2), .second, .val (.long x3), .second, .val (.long x4), .second, .val (.long x5), .second, .val (.int ((x0 &&& (7 : Int32)) % (6 : Int32))), .val (.long (own_f0_1 x0 x1 x2 x3 x4 x5)), .second, .val (.long (own_f0_2 x0 x1 x2 x3 x4 x5)), .second, .val (.long (own_f0_3 x0 x1 x2 x3 x4 x5)), .second, .val (.long (own_f0_4 x0 x1 x2 x3 x4 x5)), .second, .val (.long (own_f0_5 x0 x1 x2 x3 x4 x5)), .second, .val (.ref b6), .val (.int (own_f0_6 x0 x1 x2 x3 x4 x5)), .val (.ref a12), .val (.ref a45), .unset] [(.int (2 : Int32)), (.ref a45)]))
                    refine own_Goes.step (fun tq kq => XT.lload X58.here hx rfl (hb hby at_208) rfl kq) ?_
                    show own_Goes p e below s (own_F0 Z x0 x1 x2 x3 x4 x5 n0 h0) room_1.cells room_1.slots (T58.setTop (mkF m 210 #[.val (.int x0), .val (.long x1), .second, .val (.long x2), .second, .val (.long x3), .second, .val (.long x4), .second, .val (.long x5), .second, .val (.int ((x0 &&& (7 : Int32)) % (6 : Int32))), .val (.long (own_f0_1 x0 x1 x2 x3 x4 x5)), .second, .val (.long (own_f0_2 x0 x1 x2 x3 x4 x5)), .second, .val (.long (own_f0_3 x0 x1 x2 x3 x4 x5)), .second, .val (.long (own_f0_4 x0 x1 x2 x3 x4 x5)), .second, .val (.long (own_f0_5 x0 x1 x2 x3 x4 x5)), .second, .val (.ref b6), .val (.int (own_f0_6 x0 x1 x2 x3 x4 x5)), .val (.ref a12), .val (.ref a45), .unset] [(.long (own_f0_3 x0 x1 x2 x3 x4 x5)), (.int (2 : Int32)), (.ref a45)]))
                    refine own_Goes.step (fun tq kq => XS.aload X58.here hx rfl (hb hby at_210) rfl rfl kq) ?_
                    show own_Goes p e below s (own_F0 Z x0 x1 x2 x3 x4 x5 n0 h0) room_1.cells room_1.slots (T58.setTop (mkF m 212 #[.val (.int x0), .val (.long x1), .second, .val (.long x2), .second, .val (.long x3), .second, .val (.long x4), .second, .val (.long x5), .second, .val (.int ((x0 &&& (7 : Int32)) % (6 : Int32))), .val (.long (own_f0_1 x0 x1 x2 x3 x4 x5)), .second, .val (.long (own_f0_2 x0 x1 x2 x3 x4 x5)), .second, .val (.long (own_f0_3 x0 x1 x2 x3 x4 x5)), .second, .val (.long (own_f0_4 x0 x1 x2 x3 x4 x5)), .second, .val (.long (own_f0_5 x0 x1 x2 x3 x4 x5)), .second, .val (.ref b6), .val (.int (own_f0_6 x0 x1 x2 x3 x4 x5)), .val (.ref a12), .val (.ref a45), .unset] [(.ref a45), (.long (own_f0_3 x0 x1 x2 x3 x4 x5)), (.int (2 : Int32)), (.ref a45)]))
                    refine own_Goes.step (fun tq kq => XT.iconstV X58.here hx rfl (3 : Int32) (hb hby at_212) (by decide) kq) ?_
                    show own_Goes p e below s (own_F0 Z x0 x1 x2 x3 x4 x5 n0 h0) room_1.cells room_1.slots (T58.setTop (mkF m 213 #[.val (.int x0), .val (.long x1), .second, .val (.long x2), .second, .val (.long x3), .second, .val (.long x4), .second, .val (.long x5), .second, .val (.int ((x0 &&& (7 : Int32)) % (6 : Int32))), .val (.long (own_f0_1 x0 x1 x2 x3 x4 x5)), .second, .val (.long (own_f0_2 x0 x1 x2 x3 x4 x5)), .second, .val (.long (own_f0_3 x0 x1 x2 x3 x4 x5)), .second, .val (.long (own_f0_4 x0 x1 x2 x3 x4 x5)), .second, .val (.long (own_f0_5 x0 x1 x2 x3 x4 x5)), .second, .val (.ref b6), .val (.int (own_f0_6 x0 x1 x2 x3 x4 x5)), .val (.ref a12), .val (.ref a45), .unset] [(.int (3 : Int32)), (.ref a45), (.long (own_f0_3 x0 x1 x2 x3 x4 x5)), (.int (2 : Int32)), (.ref a45)]))
                    refine own_Goes.step (own_lald X58 hx hZ e58 f61 (i := 3) rfl (by decide) (v := (.long ((own_f0_13 x0 x1 x2 x3 x4 x5) 3))) rfl (g := (mkF m 213 #[.val (.int x0), .val (.long x1), .second, .val (.long x2), .second, .val (.long x3), .second, .val (.long x4), .second, .val (.long x5), .second, .val (.int ((x0 &&& (7 : Int32)) % (6 : Int32))), .val (.long (own_f0_1 x0 x1 x2 x3 x4 x5)), .second, .val (.long (own_f0_2 x0 x1 x2 x3 x4 x5)), .second, .val (.long (own_f0_3 x0 x1 x2 x3 x4 x5)), .second, .val (.long (own_f0_4 x0 x1 x2 x3 x4 x5)), .second, .val (.long (own_f0_5 x0 x1 x2 x3 x4 x5)), .second, .val (.ref b6), .val (.int (own_f0_6 x0 x1 x2 x3 x4 x5)), .val (.ref a12), .val (.ref a45), .unset] [(.int (3 : Int32)), (.ref a45), (.long (own_f0_3 x0 x1 x2 x3 x4 x5)), (.int (2 : Int32)), (.ref a45)])) rfl rfl (hb hby at_213)) ?_
                    show own_Goes p e below s (own_F0 Z x0 x1 x2 x3 x4 x5 n0 h0) room_1.cells room_1.slots (T58.setTop (mkF m 214 #[.val (.int x0), .val (.long x1), .second, .val (.long x2), .second, .val (.long x3), .second, .val (.long x4), .second, .val (.long x5), .second, .val (.int ((x0 &&& (7 : Int32)) % (6 : Int32))), .val (.long (own_f0_1 x0 x1 x2 x3 x4 x5)), .second, .val (.long (own_f0_2 x0 x1 x2 x3 x4 x5)), .second, .val (.long (own_f0_3 x0 x1 x2 x3 x4 x5)), .second, .val (.long (own_f0_4 x0 x1 x2 x3 x4 x5)), .second, .val (.long (own_f0_5 x0 x1 x2 x3 x4 x5)), .second, .val (.ref b6), .val (.int (own_f0_6 x0 x1 x2 x3 x4 x5)), .val (.ref a12), .val (.ref a45), .unset] [(.long ((own_f0_13 x0 x1 x2 x3 x4 x5) 3)), (.long (own_f0_3 x0 x1 x2 x3 x4 x5)), (.int (2 : Int32)), (.ref a45)]))
                    refine own_Goes.step (fun tq kq => XT.ladd X58.here hx rfl (hb hby at_214) rfl kq) ?_
                    show own_Goes p e below s (own_F0 Z x0 x1 x2 x3 x4 x5 n0 h0) room_1.cells room_1.slots (T58.setTop (mkF m 215 #[.val (.int x0), .val (.long x1), .second, .val (.long x2), .second, .val (.long x3), .second, .val (.long x4), .second, .val (.long x5), .second, .val (.int ((x0 &&& (7 : Int32)) % (6 : Int32))), .val (.long (own_f0_1 x0 x1 x2 x3 x4 x5)), .second, .val (.long (own_f0_2 x0 x1 x2 x3 x4 x5)), .second, .val (.long (own_f0_3 x0 x1 x2 x3 x4 x5)), .second, .val (.long (own_f0_4 x0 x1 x2 x3 x4 x5)), .second, .val (.long (own_f0_5 x0 x1 x2 x3 x4 x5)), .second, .val (.ref b6), .val (.int (own_f0_6 x0 x1 x2 x3 x4 x5)), .val (.ref a12), .val (.ref a45), .unset] [(.long ((own_f0_3 x0 x1 x2 x3 x4 x5) + ((own_f0_13 x0 x1 x2 x3 x4 x5) 3))), (.int (2 : Int32)), (.ref a45)]))
                    obtain ⟨T66, h66, X66, e66, W66, st66⟩ := own_last X58 hx hZ e58 f61 (i := 2) rfl (by decide) (g := (mkF m 215 #[.val (.int x0), .val (.long x1), .second, .val (.long x2), .second, .val (.long x3), .second, .val (.long x4), .second, .val (.long x5), .second, .val (.int ((x0 &&& (7 : Int32)) % (6 : Int32))), .val (.long (own_f0_1 x0 x1 x2 x3 x4 x5)), .second, .val (.long (own_f0_2 x0 x1 x2 x3 x4 x5)), .second, .val (.long (own_f0_3 x0 x1 x2 x3 x4 x5)), .second, .val (.long (own_f0_4 x0 x1 x2 x3 x4 x5)), .second, .val (.long (own_f0_5 x0 x1 x2 x3 x4 x5)), .second, .val (.ref b6), .val (.int (own_f0_6 x0 x1 x2 x3 x4 x5)), .val (.ref a12), .val (.ref a45), .unset] [(.long ((own_f0_3 x0 x1 x2 x3 x4 x5) + ((own_f0_13 x0 x1 x2 x3 x4 x5) 3))), (.int (2 : Int32)), (.ref a45)])) rfl rfl (hb hby at_215)
                    refine own_Goes.step st66 ?_
                    have f67 := f59.other W66 ne46
                    have f68 := f60.other W66 ne47
                    have f69 : own_Ar Z h66 a45 .long 5 (fun uu => .long ((own_f0_14 x0 x1 x2 x3 x4 x5) uu)) := (f61.set W66).congr fun j _ => by dsimp only [own_f0_14]; exact (apply_ite Value.long _ _ _).symm
                    have K70 := K62.wr W66 (Or.inr Kh45)
                    have N71 := Fr.snoc X66 N63 ga45
                    have Z72 : n0 ≤ h66.size := Nat.le_trans Z64 (Keep.of_wr W66).1
                    show own_Goes p e below s (own_F0 Z x0 x1 x2 x3 x4 x5 n0 h0) room_1.cells room_1.slots (T66.setTop (mkF m 216 #[.val (.int x0), .val (.long x1), .second, .val (.long x2), .second, .val (.long x3), .second, .val (.long x4), .second, .val (.long x5), .second, .val (.int ((x0 &&& (7 : Int32)) % (6 : Int32))), .val (.long (own_f0_1 x0 x1 x2 x3 x4 x5)), .second, .val (.long (own_f0_2 x0 x1 x2 x3 x4 x5)), .second, .val (.long (own_f0_3 x0 x1 x2 x3 x4 x5)), .second, .val (.long (own_f0_4 x0 x1 x2 x3 x4 x5)), .second, .val (.long (own_f0_5 x0 x1 x2 x3 x4 x5)), .second, .val (.ref b6), .val (.int (own_f0_6 x0 x1 x2 x3 x4 x5)), .val (.ref a12), .val (.ref a45), .unset] []))
                    refine own_Goes.step (fun tq kq => XS.aload X66.here hx rfl (hb hby at_216) rfl rfl kq) ?_
                    show own_Goes p e below s (own_F0 Z x0 x1 x2 x3 x4 x5 n0 h0) room_1.cells room_1.slots (T66.setTop (mkF m 218 #[.val (.int x0), .val (.long x1), .second, .val (.long x2), .second, .val (.long x3), .second, .val (.long x4), .second, .val (.long x5), .second, .val (.int ((x0 &&& (7 : Int32)) % (6 : Int32))), .val (.long (own_f0_1 x0 x1 x2 x3 x4 x5)), .second, .val (.long (own_f0_2 x0 x1 x2 x3 x4 x5)), .second, .val (.long (own_f0_3 x0 x1 x2 x3 x4 x5)), .second, .val (.long (own_f0_4 x0 x1 x2 x3 x4 x5)), .second, .val (.long (own_f0_5 x0 x1 x2 x3 x4 x5)), .second, .val (.ref b6), .val (.int (own_f0_6 x0 x1 x2 x3 x4 x5)), .val (.ref a12), .val (.ref a45), .unset] [(.ref a45)]))
                    refine own_Goes.step (fun tq kq => XT.iconstV X66.here hx rfl (1 : Int32) (hb hby at_218) (by decide) kq) ?_
                    show own_Goes p e below s (own_F0 Z x0 x1 x2 x3 x4 x5 n0 h0) room_1.cells room_1.slots (T66.setTop (mkF m 219 #[.val (.int x0), .val (.long x1), .second, .val (.long x2), .second, .val (.long x3), .second, .val (.long x4), .second, .val (.long x5), .second, .val (.int ((x0 &&& (7 : Int32)) % (6 : Int32))), .val (.long (own_f0_1 x0 x1 x2 x3 x4 x5)), .second, .val (.long (own_f0_2 x0 x1 x2 x3 x4 x5)), .second, .val (.long (own_f0_3 x0 x1 x2 x3 x4 x5)), .second, .val (.long (own_f0_4 x0 x1 x2 x3 x4 x5)), .second, .val (.long (own_f0_5 x0 x1 x2 x3 x4 x5)), .second, .val (.ref b6), .val (.int (own_f0_6 x0 x1 x2 x3 x4 x5)), .val (.ref a12), .val (.ref a45), .unset] [(.int (1 : Int32)), (.ref a45)]))
                    refine own_Goes.step (fun tq kq => XT.lload X66.here hx rfl (hb hby at_219) rfl kq) ?_
                    show own_Goes p e below s (own_F0 Z x0 x1 x2 x3 x4 x5 n0 h0) room_1.cells room_1.slots (T66.setTop (mkF m 221 #[.val (.int x0), .val (.long x1), .second, .val (.long x2), .second, .val (.long x3), .second, .val (.long x4), .second, .val (.long x5), .second, .val (.int ((x0 &&& (7 : Int32)) % (6 : Int32))), .val (.long (own_f0_1 x0 x1 x2 x3 x4 x5)), .second, .val (.long (own_f0_2 x0 x1 x2 x3 x4 x5)), .second, .val (.long (own_f0_3 x0 x1 x2 x3 x4 x5)), .second, .val (.long (own_f0_4 x0 x1 x2 x3 x4 x5)), .second, .val (.long (own_f0_5 x0 x1 x2 x3 x4 x5)), .second, .val (.ref b6), .val (.int (own_f0_6 x0 x1 x2 x3 x4 x5)), .val (.ref a12), .val (.ref a45), .unset] [(.long (own_f0_2 x0 x1 x2 x3 x4 x5)), (.int (1 : Int32)), (.ref a45)]))
                    refine own_Goes.step (fun tq kq => XS.aload X66.here hx rfl (hb hby at_221) rfl rfl kq) ?_
                    show own_Goes p e below s (own_F0 Z x0 x1 x2 x3 x4 x5 n0 h0) room_1.cells room_1.slots (T66.setTop (mkF m 223 #[.val (.int x0), .val (.long x1), .second, .val (.long x2), .second, .val (.long x3), .second, .val (.long x4), .second, .val (.long x5), .second, .val (.int ((x0 &&& (7 : Int32)) % (6 : Int32))), .val (.long (own_f0_1 x0 x1 x2 x3 x4 x5)), .second, .val (.long (own_f0_2 x0 x1 x2 x3 x4 x5)), .second, .val (.long (own_f0_3 x0 x1 x2 x3 x4 x5)), .second, .val (.long (own_f0_4 x0 x1 x2 x3 x4 x5)), .second, .val (.long (own_f0_5 x0 x1 x2 x3 x4 x5)), .second, .val (.ref b6), .val (.int (own_f0_6 x0 x1 x2 x3 x4 x5)), .val (.ref a12), .val (.ref a45), .unset] [(.ref a45), (.long (own_f0_2 x0 x1 x2 x3 x4 x5)), (.int (1 : Int32)), (.ref a45)]))
                    refine own_Goes.step (fun tq kq => XT.iconstV X66.here hx rfl (2 : Int32) (hb hby at_223) (by decide) kq) ?_
                    show own_Goes p e below s (own_F0 Z x0 x1 x2 x3 x4 x5 n0 h0) room_1.cells room_1.slots (T66.setTop (mkF m 224 #[.val (.int x0), .val (.long x1), .second, .val (.long x2), .second, .val (.long x3), .second, .val (.long x4), .second, .val (.long x5), .second, .val (.int ((x0 &&& (7 : Int32)) % (6 : Int32))), .val (.long (own_f0_1 x0 x1 x2 x3 x4 x5)), .second, .val (.long (own_f0_2 x0 x1 x2 x3 x4 x5)), .second, .val (.long (own_f0_3 x0 x1 x2 x3 x4 x5)), .second, .val (.long (own_f0_4 x0 x1 x2 x3 x4 x5)), .second, .val (.long (own_f0_5 x0 x1 x2 x3 x4 x5)), .second, .val (.ref b6), .val (.int (own_f0_6 x0 x1 x2 x3 x4 x5)), .val (.ref a12), .val (.ref a45), .unset] [(.int (2 : Int32)), (.ref a45), (.long (own_f0_2 x0 x1 x2 x3 x4 x5)), (.int (1 : Int32)), (.ref a45)]))
                    refine own_Goes.step (own_lald X66 hx hZ e66 f69 (i := 2) rfl (by decide) (v := (.long ((own_f0_14 x0 x1 x2 x3 x4 x5) 2))) rfl (g := (mkF m 224 #[.val (.int x0), .val (.long x1), .second, .val (.long x2), .second, .val (.long x3), .second, .val (.long x4), .second, .val (.long x5), .second, .val (.int ((x0 &&& (7 : Int32)) % (6 : Int32))), .val (.long (own_f0_1 x0 x1 x2 x3 x4 x5)), .second, .val (.long (own_f0_2 x0 x1 x2 x3 x4 x5)), .second, .val (.long (own_f0_3 x0 x1 x2 x3 x4 x5)), .second, .val (.long (own_f0_4 x0 x1 x2 x3 x4 x5)), .second, .val (.long (own_f0_5 x0 x1 x2 x3 x4 x5)), .second, .val (.ref b6), .val (.int (own_f0_6 x0 x1 x2 x3 x4 x5)), .val (.ref a12), .val (.ref a45), .unset] [(.int (2 : Int32)), (.ref a45), (.long (own_f0_2 x0 x1 x2 x3 x4 x5)), (.int (1 : Int32)), (.ref a45)])) rfl rfl (hb hby at_224)) ?_
                    show own_Goes p e below s (own_F0 Z x0 x1 x2 x3 x4 x5 n0 h0) room_1.cells room_1.slots (T66.setTop (mkF m 225 #[.val (.int x0), .val (.long x1), .second, .val (.long x2), .second, .val (.long x3), .second, .val (.long x4), .second, .val (.long x5), .second, .val (.int ((x0 &&& (7 : Int32)) % (6 : Int32))), .val (.long (own_f0_1 x0 x1 x2 x3 x4 x5)), .second, .val (.long (own_f0_2 x0 x1 x2 x3 x4 x5)), .second, .val (.long (own_f0_3 x0 x1 x2 x3 x4 x5)), .second, .val (.long (own_f0_4 x0 x1 x2 x3 x4 x5)), .second, .val (.long (own_f0_5 x0 x1 x2 x3 x4 x5)), .second, .val (.ref b6), .val (.int (own_f0_6 x0 x1 x2 x3 x4 x5)), .val (.ref a12), .val (.ref a45), .unset] [(.long ((own_f0_14 x0 x1 x2 x3 x4 x5) 2)), (.long (own_f0_2 x0 x1 x2 x3 x4 x5)), (.int (1 : Int32)), (.ref a45)]))
                    refine own_Goes.step (fun tq kq => XT.ladd X66.here hx rfl (hb hby at_225) rfl kq) ?_
                    show own_Goes p e below s (own_F0 Z x0 x1 x2 x3 x4 x5 n0 h0) room_1.cells room_1.slots (T66.setTop (mkF m 226 #[.val (.int x0), .val (.long x1), .second, .val (.long x2), .second, .val (.long x3), .second, .val (.long x4), .second, .val (.long x5), .second, .val (.int ((x0 &&& (7 : Int32)) % (6 : Int32))), .val (.long (own_f0_1 x0 x1 x2 x3 x4 x5)), .second, .val (.long (own_f0_2 x0 x1 x2 x3 x4 x5)), .second, .val (.long (own_f0_3 x0 x1 x2 x3 x4 x5)), .second, .val (.long (own_f0_4 x0 x1 x2 x3 x4 x5)), .second, .val (.long (own_f0_5 x0 x1 x2 x3 x4 x5)), .second, .val (.ref b6), .val (.int (own_f0_6 x0 x1 x2 x3 x4 x5)), .val (.ref a12), .val (.ref a45), .unset] [(.long ((own_f0_2 x0 x1 x2 x3 x4 x5) + ((own_f0_14 x0 x1 x2 x3 x4 x5) 2))), (.int (1 : Int32)), (.ref a45)]))
                    obtain ⟨T74, h74, X74, e74, W74, st74⟩ := own_last X66 hx hZ e66 f69 (i := 1) rfl (by decide) (g := (mkF m 226 #[.val (.int x0), .val (.long x1), .second, .val (.long x2), .second, .val (.long x3), .second, .val (.long x4), .second, .val (.long x5), .second, .val (.int ((x0 &&& (7 : Int32)) % (6 : Int32))), .val (.long (own_f0_1 x0 x1 x2 x3 x4 x5)), .second, .val (.long (own_f0_2 x0 x1 x2 x3 x4 x5)), .second, .val (.long (own_f0_3 x0 x1 x2 x3 x4 x5)), .second, .val (.long (own_f0_4 x0 x1 x2 x3 x4 x5)), .second, .val (.long (own_f0_5 x0 x1 x2 x3 x4 x5)), .second, .val (.ref b6), .val (.int (own_f0_6 x0 x1 x2 x3 x4 x5)), .val (.ref a12), .val (.ref a45), .unset] [(.long ((own_f0_2 x0 x1 x2 x3 x4 x5) + ((own_f0_14 x0 x1 x2 x3 x4 x5) 2))), (.int (1 : Int32)), (.ref a45)])) rfl rfl (hb hby at_226)
                    refine own_Goes.step st74 ?_
                    have f75 := f67.other W74 ne46
                    have f76 := f68.other W74 ne47
                    have f77 : own_Ar Z h74 a45 .long 5 (fun uu => .long ((own_f0_15 x0 x1 x2 x3 x4 x5) uu)) := (f69.set W74).congr fun j _ => by dsimp only [own_f0_15]; exact (apply_ite Value.long _ _ _).symm
                    have K78 := K70.wr W74 (Or.inr Kh45)
                    have N79 := Fr.snoc X74 N71 ga45
                    have Z80 : n0 ≤ h74.size := Nat.le_trans Z72 (Keep.of_wr W74).1
                    show own_Goes p e below s (own_F0 Z x0 x1 x2 x3 x4 x5 n0 h0) room_1.cells room_1.slots (T74.setTop (mkF m 227 #[.val (.int x0), .val (.long x1), .second, .val (.long x2), .second, .val (.long x3), .second, .val (.long x4), .second, .val (.long x5), .second, .val (.int ((x0 &&& (7 : Int32)) % (6 : Int32))), .val (.long (own_f0_1 x0 x1 x2 x3 x4 x5)), .second, .val (.long (own_f0_2 x0 x1 x2 x3 x4 x5)), .second, .val (.long (own_f0_3 x0 x1 x2 x3 x4 x5)), .second, .val (.long (own_f0_4 x0 x1 x2 x3 x4 x5)), .second, .val (.long (own_f0_5 x0 x1 x2 x3 x4 x5)), .second, .val (.ref b6), .val (.int (own_f0_6 x0 x1 x2 x3 x4 x5)), .val (.ref a12), .val (.ref a45), .unset] []))
                    refine own_Goes.step (fun tq kq => XS.aload X74.here hx rfl (hb hby at_227) rfl rfl kq) ?_
                    show own_Goes p e below s (own_F0 Z x0 x1 x2 x3 x4 x5 n0 h0) room_1.cells room_1.slots (T74.setTop (mkF m 229 #[.val (.int x0), .val (.long x1), .second, .val (.long x2), .second, .val (.long x3), .second, .val (.long x4), .second, .val (.long x5), .second, .val (.int ((x0 &&& (7 : Int32)) % (6 : Int32))), .val (.long (own_f0_1 x0 x1 x2 x3 x4 x5)), .second, .val (.long (own_f0_2 x0 x1 x2 x3 x4 x5)), .second, .val (.long (own_f0_3 x0 x1 x2 x3 x4 x5)), .second, .val (.long (own_f0_4 x0 x1 x2 x3 x4 x5)), .second, .val (.long (own_f0_5 x0 x1 x2 x3 x4 x5)), .second, .val (.ref b6), .val (.int (own_f0_6 x0 x1 x2 x3 x4 x5)), .val (.ref a12), .val (.ref a45), .unset] [(.ref a45)]))
                    refine own_Goes.step (fun tq kq => XT.iconstV X74.here hx rfl (0 : Int32) (hb hby at_229) (by decide) kq) ?_
                    show own_Goes p e below s (own_F0 Z x0 x1 x2 x3 x4 x5 n0 h0) room_1.cells room_1.slots (T74.setTop (mkF m 230 #[.val (.int x0), .val (.long x1), .second, .val (.long x2), .second, .val (.long x3), .second, .val (.long x4), .second, .val (.long x5), .second, .val (.int ((x0 &&& (7 : Int32)) % (6 : Int32))), .val (.long (own_f0_1 x0 x1 x2 x3 x4 x5)), .second, .val (.long (own_f0_2 x0 x1 x2 x3 x4 x5)), .second, .val (.long (own_f0_3 x0 x1 x2 x3 x4 x5)), .second, .val (.long (own_f0_4 x0 x1 x2 x3 x4 x5)), .second, .val (.long (own_f0_5 x0 x1 x2 x3 x4 x5)), .second, .val (.ref b6), .val (.int (own_f0_6 x0 x1 x2 x3 x4 x5)), .val (.ref a12), .val (.ref a45), .unset] [(.int (0 : Int32)), (.ref a45)]))
                    refine own_Goes.step (fun tq kq => XT.lload X74.here hx rfl (hb hby at_230) rfl kq) ?_
                    show own_Goes p e below s (own_F0 Z x0 x1 x2 x3 x4 x5 n0 h0) room_1.cells room_1.slots (T74.setTop (mkF m 232 #[.val (.int x0), .val (.long x1), .second, .val (.long x2), .second, .val (.long x3), .second, .val (.long x4), .second, .val (.long x5), .second, .val (.int ((x0 &&& (7 : Int32)) % (6 : Int32))), .val (.long (own_f0_1 x0 x1 x2 x3 x4 x5)), .second, .val (.long (own_f0_2 x0 x1 x2 x3 x4 x5)), .second, .val (.long (own_f0_3 x0 x1 x2 x3 x4 x5)), .second, .val (.long (own_f0_4 x0 x1 x2 x3 x4 x5)), .second, .val (.long (own_f0_5 x0 x1 x2 x3 x4 x5)), .second, .val (.ref b6), .val (.int (own_f0_6 x0 x1 x2 x3 x4 x5)), .val (.ref a12), .val (.ref a45), .unset] [(.long (own_f0_1 x0 x1 x2 x3 x4 x5)), (.int (0 : Int32)), (.ref a45)]))
                    refine own_Goes.step (fun tq kq => XS.aload X74.here hx rfl (hb hby at_232) rfl rfl kq) ?_
                    show own_Goes p e below s (own_F0 Z x0 x1 x2 x3 x4 x5 n0 h0) room_1.cells room_1.slots (T74.setTop (mkF m 234 #[.val (.int x0), .val (.long x1), .second, .val (.long x2), .second, .val (.long x3), .second, .val (.long x4), .second, .val (.long x5), .second, .val (.int ((x0 &&& (7 : Int32)) % (6 : Int32))), .val (.long (own_f0_1 x0 x1 x2 x3 x4 x5)), .second, .val (.long (own_f0_2 x0 x1 x2 x3 x4 x5)), .second, .val (.long (own_f0_3 x0 x1 x2 x3 x4 x5)), .second, .val (.long (own_f0_4 x0 x1 x2 x3 x4 x5)), .second, .val (.long (own_f0_5 x0 x1 x2 x3 x4 x5)), .second, .val (.ref b6), .val (.int (own_f0_6 x0 x1 x2 x3 x4 x5)), .val (.ref a12), .val (.ref a45), .unset] [(.ref a45), (.long (own_f0_1 x0 x1 x2 x3 x4 x5)), (.int (0 : Int32)), (.ref a45)]))
                    refine own_Goes.step (fun tq kq => XT.iconstV X74.here hx rfl (1 : Int32) (hb hby at_234) (by decide) kq) ?_
                    show own_Goes p e below s (own_F0 Z x0 x1 x2 x3 x4 x5 n0 h0) room_1.cells room_1.slots (T74.setTop (mkF m 235 #[.val (.int x0), .val (.long x1), .second, .val (.long x2), .second, .val (.long x3), .second, .val (.long x4), .second, .val (.long x5), .second, .val (.int ((x0 &&& (7 : Int32)) % (6 : Int32))), .val (.long (own_f0_1 x0 x1 x2 x3 x4 x5)), .second, .val (.long (own_f0_2 x0 x1 x2 x3 x4 x5)), .second, .val (.long (own_f0_3 x0 x1 x2 x3 x4 x5)), .second, .val (.long (own_f0_4 x0 x1 x2 x3 x4 x5)), .second, .val (.long (own_f0_5 x0 x1 x2 x3 x4 x5)), .second, .val (.ref b6), .val (.int (own_f0_6 x0 x1 x2 x3 x4 x5)), .val (.ref a12), .val (.ref a45), .unset] [(.int (1 : Int32)), (.ref a45), (.long (own_f0_1 x0 x1 x2 x3 x4 x5)), (.int (0 : Int32)), (.ref a45)]))
                    refine own_Goes.step (own_lald X74 hx hZ e74 f77 (i := 1) rfl (by decide) (v := (.long ((own_f0_15 x0 x1 x2 x3 x4 x5) 1))) rfl (g := (mkF m 235 #[.val (.int x0), .val (.long x1), .second, .val (.long x2), .second, .val (.long x3), .second, .val (.long x4), .second, .val (.long x5), .second, .val (.int ((x0 &&& (7 : Int32)) % (6 : Int32))), .val (.long (own_f0_1 x0 x1 x2 x3 x4 x5)), .second, .val (.long (own_f0_2 x0 x1 x2 x3 x4 x5)), .second, .val (.long (own_f0_3 x0 x1 x2 x3 x4 x5)), .second, .val (.long (own_f0_4 x0 x1 x2 x3 x4 x5)), .second, .val (.long (own_f0_5 x0 x1 x2 x3 x4 x5)), .second, .val (.ref b6), .val (.int (own_f0_6 x0 x1 x2 x3 x4 x5)), .val (.ref a12), .val (.ref a45), .unset] [(.int (1 : Int32)), (.ref a45), (.long (own_f0_1 x0 x1 x2 x3 x4 x5)), (.int (0 : Int32)), (.ref a45)])) rfl rfl (hb hby at_235)) ?_
                    show own_Goes p e below s (own_F0 Z x0 x1 x2 x3 x4 x5 n0 h0) room_1.cells room_1.slots (T74.setTop (mkF m 236 #[.val (.int x0), .val (.long x1), .second, .val (.long x2), .second, .val (.long x3), .second, .val (.long x4), .second, .val (.long x5), .second, .val (.int ((x0 &&& (7 : Int32)) % (6 : Int32))), .val (.long (own_f0_1 x0 x1 x2 x3 x4 x5)), .second, .val (.long (own_f0_2 x0 x1 x2 x3 x4 x5)), .second, .val (.long (own_f0_3 x0 x1 x2 x3 x4 x5)), .second, .val (.long (own_f0_4 x0 x1 x2 x3 x4 x5)), .second, .val (.long (own_f0_5 x0 x1 x2 x3 x4 x5)), .second, .val (.ref b6), .val (.int (own_f0_6 x0 x1 x2 x3 x4 x5)), .val (.ref a12), .val (.ref a45), .unset] [(.long ((own_f0_15 x0 x1 x2 x3 x4 x5) 1)), (.long (own_f0_1 x0 x1 x2 x3 x4 x5)), (.int (0 : Int32)), (.ref a45)]))
                    refine own_Goes.step (fun tq kq => XT.ladd X74.here hx rfl (hb hby at_236) rfl kq) ?_
                    show own_Goes p e below s (own_F0 Z x0 x1 x2 x3 x4 x5 n0 h0) room_1.cells room_1.slots (T74.setTop (mkF m 237 #[.val (.int x0), .val (.long x1), .second, .val (.long x2), .second, .val (.long x3), .second, .val (.long x4), .second, .val (.long x5), .second, .val (.int ((x0 &&& (7 : Int32)) % (6 : Int32))), .val (.long (own_f0_1 x0 x1 x2 x3 x4 x5)), .second, .val (.long (own_f0_2 x0 x1 x2 x3 x4 x5)), .second, .val (.long (own_f0_3 x0 x1 x2 x3 x4 x5)), .second, .val (.long (own_f0_4 x0 x1 x2 x3 x4 x5)), .second, .val (.long (own_f0_5 x0 x1 x2 x3 x4 x5)), .second, .val (.ref b6), .val (.int (own_f0_6 x0 x1 x2 x3 x4 x5)), .val (.ref a12), .val (.ref a45), .unset] [(.long ((own_f0_1 x0 x1 x2 x3 x4 x5) + ((own_f0_15 x0 x1 x2 x3 x4 x5) 1))), (.int (0 : Int32)), (.ref a45)]))
                    obtain ⟨T82, h82, X82, e82, W82, st82⟩ := own_last X74 hx hZ e74 f77 (i := 0) rfl (by decide) (g := (mkF m 237 #[.val (.int x0), .val (.long x1), .second, .val (.long x2), .second, .val (.long x3), .second, .val (.long x4), .second, .val (.long x5), .second, .val (.int ((x0 &&& (7 : Int32)) % (6 : Int32))), .val (.long (own_f0_1 x0 x1 x2 x3 x4 x5)), .second, .val (.long (own_f0_2 x0 x1 x2 x3 x4 x5)), .second, .val (.long (own_f0_3 x0 x1 x2 x3 x4 x5)), .second, .val (.long (own_f0_4 x0 x1 x2 x3 x4 x5)), .second, .val (.long (own_f0_5 x0 x1 x2 x3 x4 x5)), .second, .val (.ref b6), .val (.int (own_f0_6 x0 x1 x2 x3 x4 x5)), .val (.ref a12), .val (.ref a45), .unset] [(.long ((own_f0_1 x0 x1 x2 x3 x4 x5) + ((own_f0_15 x0 x1 x2 x3 x4 x5) 1))), (.int (0 : Int32)), (.ref a45)])) rfl rfl (hb hby at_237)
                    refine own_Goes.step st82 ?_
                    have f83 := f75.other W82 ne46
                    have f84 := f76.other W82 ne47
                    have f85 : own_Ar Z h82 a45 .long 5 (fun uu => .long ((own_f0_16 x0 x1 x2 x3 x4 x5) uu)) := (f77.set W82).congr fun j _ => by dsimp only [own_f0_16]; exact (apply_ite Value.long _ _ _).symm
                    have K86 := K78.wr W82 (Or.inr Kh45)
                    have N87 := Fr.snoc X82 N79 ga45
                    have Z88 : n0 ≤ h82.size := Nat.le_trans Z80 (Keep.of_wr W82).1
                    show own_Goes p e below s (own_F0 Z x0 x1 x2 x3 x4 x5 n0 h0) room_1.cells room_1.slots (T82.setTop (mkF m 238 #[.val (.int x0), .val (.long x1), .second, .val (.long x2), .second, .val (.long x3), .second, .val (.long x4), .second, .val (.long x5), .second, .val (.int ((x0 &&& (7 : Int32)) % (6 : Int32))), .val (.long (own_f0_1 x0 x1 x2 x3 x4 x5)), .second, .val (.long (own_f0_2 x0 x1 x2 x3 x4 x5)), .second, .val (.long (own_f0_3 x0 x1 x2 x3 x4 x5)), .second, .val (.long (own_f0_4 x0 x1 x2 x3 x4 x5)), .second, .val (.long (own_f0_5 x0 x1 x2 x3 x4 x5)), .second, .val (.ref b6), .val (.int (own_f0_6 x0 x1 x2 x3 x4 x5)), .val (.ref a12), .val (.ref a45), .unset] []))
                    refine own_Goes.step (fun tq kq => XS.aload X82.here hx rfl (hb hby at_238) rfl rfl kq) ?_
                    show own_Goes p e below s (own_F0 Z x0 x1 x2 x3 x4 x5 n0 h0) room_1.cells room_1.slots (T82.setTop (mkF m 240 #[.val (.int x0), .val (.long x1), .second, .val (.long x2), .second, .val (.long x3), .second, .val (.long x4), .second, .val (.long x5), .second, .val (.int ((x0 &&& (7 : Int32)) % (6 : Int32))), .val (.long (own_f0_1 x0 x1 x2 x3 x4 x5)), .second, .val (.long (own_f0_2 x0 x1 x2 x3 x4 x5)), .second, .val (.long (own_f0_3 x0 x1 x2 x3 x4 x5)), .second, .val (.long (own_f0_4 x0 x1 x2 x3 x4 x5)), .second, .val (.long (own_f0_5 x0 x1 x2 x3 x4 x5)), .second, .val (.ref b6), .val (.int (own_f0_6 x0 x1 x2 x3 x4 x5)), .val (.ref a12), .val (.ref a45), .unset] [(.ref a12)]))
                    refine own_Goes.step (fun tq kq => XS.aload X82.here hx rfl (hb hby at_240) rfl rfl kq) ?_
                    show own_Goes p e below s (own_F0 Z x0 x1 x2 x3 x4 x5 n0 h0) room_1.cells room_1.slots (T82.setTop (mkF m 242 #[.val (.int x0), .val (.long x1), .second, .val (.long x2), .second, .val (.long x3), .second, .val (.long x4), .second, .val (.long x5), .second, .val (.int ((x0 &&& (7 : Int32)) % (6 : Int32))), .val (.long (own_f0_1 x0 x1 x2 x3 x4 x5)), .second, .val (.long (own_f0_2 x0 x1 x2 x3 x4 x5)), .second, .val (.long (own_f0_3 x0 x1 x2 x3 x4 x5)), .second, .val (.long (own_f0_4 x0 x1 x2 x3 x4 x5)), .second, .val (.long (own_f0_5 x0 x1 x2 x3 x4 x5)), .second, .val (.ref b6), .val (.int (own_f0_6 x0 x1 x2 x3 x4 x5)), .val (.ref a12), .val (.ref a45), .unset] [(.ref a45), (.ref a12)]))
                    refine own_Goes.step (fun tq kq => XS.iload X82.here hx rfl (hb hby at_242) rfl kq) ?_
                    show own_Goes p e below s (own_F0 Z x0 x1 x2 x3 x4 x5 n0 h0) room_1.cells room_1.slots (T82.setTop (mkF m 244 #[.val (.int x0), .val (.long x1), .second, .val (.long x2), .second, .val (.long x3), .second, .val (.long x4), .second, .val (.long x5), .second, .val (.int ((x0 &&& (7 : Int32)) % (6 : Int32))), .val (.long (own_f0_1 x0 x1 x2 x3 x4 x5)), .second, .val (.long (own_f0_2 x0 x1 x2 x3 x4 x5)), .second, .val (.long (own_f0_3 x0 x1 x2 x3 x4 x5)), .second, .val (.long (own_f0_4 x0 x1 x2 x3 x4 x5)), .second, .val (.long (own_f0_5 x0 x1 x2 x3 x4 x5)), .second, .val (.ref b6), .val (.int (own_f0_6 x0 x1 x2 x3 x4 x5)), .val (.ref a12), .val (.ref a45), .unset] [(.int (own_f0_6 x0 x1 x2 x3 x4 x5)), (.ref a45), (.ref a12)]))
                    refine own_Goes.step (fun tq kq => XS.iload X82.here hx rfl (hb hby at_244) rfl kq) ?_
                    show own_Goes p e below s (own_F0 Z x0 x1 x2 x3 x4 x5 n0 h0) room_1.cells room_1.slots (T82.setTop (mkF m 246 #[.val (.int x0), .val (.long x1), .second, .val (.long x2), .second, .val (.long x3), .second, .val (.long x4), .second, .val (.long x5), .second, .val (.int ((x0 &&& (7 : Int32)) % (6 : Int32))), .val (.long (own_f0_1 x0 x1 x2 x3 x4 x5)), .second, .val (.long (own_f0_2 x0 x1 x2 x3 x4 x5)), .second, .val (.long (own_f0_3 x0 x1 x2 x3 x4 x5)), .second, .val (.long (own_f0_4 x0 x1 x2 x3 x4 x5)), .second, .val (.long (own_f0_5 x0 x1 x2 x3 x4 x5)), .second, .val (.ref b6), .val (.int (own_f0_6 x0 x1 x2 x3 x4 x5)), .val (.ref a12), .val (.ref a45), .unset] [(.int ((x0 &&& (7 : Int32)) % (6 : Int32))), (.int (own_f0_6 x0 x1 x2 x3 x4 x5)), (.ref a45), (.ref a12)]))
                    refine own_Goes.step (fun tq kq => XT.iconstV X82.here hx rfl (1 : Int32) (hb hby at_246) (by decide) kq) ?_
                    show own_Goes p e below s (own_F0 Z x0 x1 x2 x3 x4 x5 n0 h0) room_1.cells room_1.slots (T82.setTop (mkF m 247 #[.val (.int x0), .val (.long x1), .second, .val (.long x2), .second, .val (.long x3), .second, .val (.long x4), .second, .val (.long x5), .second, .val (.int ((x0 &&& (7 : Int32)) % (6 : Int32))), .val (.long (own_f0_1 x0 x1 x2 x3 x4 x5)), .second, .val (.long (own_f0_2 x0 x1 x2 x3 x4 x5)), .second, .val (.long (own_f0_3 x0 x1 x2 x3 x4 x5)), .second, .val (.long (own_f0_4 x0 x1 x2 x3 x4 x5)), .second, .val (.long (own_f0_5 x0 x1 x2 x3 x4 x5)), .second, .val (.ref b6), .val (.int (own_f0_6 x0 x1 x2 x3 x4 x5)), .val (.ref a12), .val (.ref a45), .unset] [(.int (1 : Int32)), (.int ((x0 &&& (7 : Int32)) % (6 : Int32))), (.int (own_f0_6 x0 x1 x2 x3 x4 x5)), (.ref a45), (.ref a12)]))
                    obtain ⟨w89, T89, L89, q89, Y89, st89⟩ := own_stat X82 hx hZ e82 hown (hw _ (List.mem_of_getElem? (i := 12) rfl)) (hw _ (List.mem_of_getElem? (i := 13) rfl)) (hw _ (List.mem_of_getElem? (i := 2) rfl)) (hw _ (List.mem_of_getElem? (i := 14) rfl)) (by decide) (own_m3 l Z a0 hw [] a12 a45 (own_f0_6 x0 x1 x2 x3 x4 x5) ((x0 &&& (7 : Int32)) % (6 : Int32)) (1 : Int32) (own_f0_11 x0 x1 x2 x3 x4 x5) (own_f0_16 x0 x1 x2 x3 x4 x5) 0 n0 h82 f84 f85 rfl (by decide)) (by decide) (W := 0) (by decide) (by decide) (by decide) (g := (mkF m 247 #[.val (.int x0), .val (.long x1), .second, .val (.long x2), .second, .val (.long x3), .second, .val (.long x4), .second, .val (.long x5), .second, .val (.int ((x0 &&& (7 : Int32)) % (6 : Int32))), .val (.long (own_f0_1 x0 x1 x2 x3 x4 x5)), .second, .val (.long (own_f0_2 x0 x1 x2 x3 x4 x5)), .second, .val (.long (own_f0_3 x0 x1 x2 x3 x4 x5)), .second, .val (.long (own_f0_4 x0 x1 x2 x3 x4 x5)), .second, .val (.long (own_f0_5 x0 x1 x2 x3 x4 x5)), .second, .val (.ref b6), .val (.int (own_f0_6 x0 x1 x2 x3 x4 x5)), .val (.ref a12), .val (.ref a45), .unset] [(.int (1 : Int32)), (.int ((x0 &&& (7 : Int32)) % (6 : Int32))), (.int (own_f0_6 x0 x1 x2 x3 x4 x5)), (.ref a45), (.ref a12)])) rfl (by rw [hml]; rfl) (argsL := [(.ref a12), (.ref a45), (.int (own_f0_6 x0 x1 x2 x3 x4 x5)), (.int ((x0 &&& (7 : Int32)) % (6 : Int32))), (.int (1 : Int32))]) (rest := []) (lenOf pd_3 rfl) rfl (by show 2 * 0 + _ ≤ _; exact Nat.le_of_eq rfl) (hb hby at_247)
                    obtain ⟨e89, X89⟩ := own_clean q89 Y89 rfl rfl
                    obtain ⟨rfl, -, -⟩ := q89
                    refine own_Goes.step st89 ?_
                    show own_Goes p e below s (own_F0 Z x0 x1 x2 x3 x4 x5 n0 h0) room_1.cells room_1.slots (T89.setTop (mkF m 250 #[.val (.int x0), .val (.long x1), .second, .val (.long x2), .second, .val (.long x3), .second, .val (.long x4), .second, .val (.long x5), .second, .val (.int ((x0 &&& (7 : Int32)) % (6 : Int32))), .val (.long (own_f0_1 x0 x1 x2 x3 x4 x5)), .second, .val (.long (own_f0_2 x0 x1 x2 x3 x4 x5)), .second, .val (.long (own_f0_3 x0 x1 x2 x3 x4 x5)), .second, .val (.long (own_f0_4 x0 x1 x2 x3 x4 x5)), .second, .val (.long (own_f0_5 x0 x1 x2 x3 x4 x5)), .second, .val (.ref b6), .val (.int (own_f0_6 x0 x1 x2 x3 x4 x5)), .val (.ref a12), .val (.ref a45), .unset] [(.int (own_f3 (own_f0_6 x0 x1 x2 x3 x4 x5) ((x0 &&& (7 : Int32)) % (6 : Int32)) (1 : Int32) (own_f0_11 x0 x1 x2 x3 x4 x5) (own_f0_16 x0 x1 x2 x3 x4 x5) 0))]))
                    by_cases hc90 : (own_f3 (own_f0_6 x0 x1 x2 x3 x4 x5) ((x0 &&& (7 : Int32)) % (6 : Int32)) (1 : Int32) (own_f0_11 x0 x1 x2 x3 x4 x5) (own_f0_16 x0 x1 x2 x3 x4 x5) 0) = (0 : Int32)
                    · refine own_Goes.step (fun tq kq => XS.ifYes X89.here hx rfl (pc0 := 250) (pc' := 302) rfl (hb hby at_250) rfl (XT.i0_eq_t hc90) (by decide) (by decide) kq) ?_
                      show own_Goes p e below s (own_F0 Z x0 x1 x2 x3 x4 x5 n0 h0) room_1.cells room_1.slots (T89.setTop (mkF m 302 #[.val (.int x0), .val (.long x1), .second, .val (.long x2), .second, .val (.long x3), .second, .val (.long x4), .second, .val (.long x5), .second, .val (.int ((x0 &&& (7 : Int32)) % (6 : Int32))), .val (.long (own_f0_1 x0 x1 x2 x3 x4 x5)), .second, .val (.long (own_f0_2 x0 x1 x2 x3 x4 x5)), .second, .val (.long (own_f0_3 x0 x1 x2 x3 x4 x5)), .second, .val (.long (own_f0_4 x0 x1 x2 x3 x4 x5)), .second, .val (.long (own_f0_5 x0 x1 x2 x3 x4 x5)), .second, .val (.ref b6), .val (.int (own_f0_6 x0 x1 x2 x3 x4 x5)), .val (.ref a12), .val (.ref a45), .unset] []))
                      refine own_Goes.step (fun tq kq => XT.iconstV X89.here hx rfl (0 : Int32) (hb hby at_302) (by decide) kq) ?_
                      show own_Goes p e below s (own_F0 Z x0 x1 x2 x3 x4 x5 n0 h0) room_1.cells room_1.slots (T89.setTop (mkF m 303 #[.val (.int x0), .val (.long x1), .second, .val (.long x2), .second, .val (.long x3), .second, .val (.long x4), .second, .val (.long x5), .second, .val (.int ((x0 &&& (7 : Int32)) % (6 : Int32))), .val (.long (own_f0_1 x0 x1 x2 x3 x4 x5)), .second, .val (.long (own_f0_2 x0 x1 x2 x3 x4 x5)), .second, .val (.long (own_f0_3 x0 x1 x2 x3 x4 x5)), .second, .val (.long (own_f0_4 x0 x1 x2 x3 x4 x5)), .second, .val (.long (own_f0_5 x0 x1 x2 x3 x4 x5)), .second, .val (.ref b6), .val (.int (own_f0_6 x0 x1 x2 x3 x4 x5)), .val (.ref a12), .val (.ref a45), .unset] [(.int (0 : Int32))]))
                      refine own_Goes.step (fun tq kq => XS.istore X89.here hx rfl (hb hby at_303) rfl (l' := #[.val (.int x0), .val (.long x1), .second, .val (.long x2), .second, .val (.long x3), .second, .val (.long x4), .second, .val (.long x5), .second, .val (.int ((x0 &&& (7 : Int32)) % (6 : Int32))), .val (.long (own_f0_1 x0 x1 x2 x3 x4 x5)), .second, .val (.long (own_f0_2 x0 x1 x2 x3 x4 x5)), .second, .val (.long (own_f0_3 x0 x1 x2 x3 x4 x5)), .second, .val (.long (own_f0_4 x0 x1 x2 x3 x4 x5)), .second, .val (.long (own_f0_5 x0 x1 x2 x3 x4 x5)), .second, .val (.ref b6), .val (.int (own_f0_6 x0 x1 x2 x3 x4 x5)), .val (.ref a12), .val (.ref a45), .val (.int (0 : Int32))]) rfl kq) ?_
                      show own_Goes p e below s (own_F0 Z x0 x1 x2 x3 x4 x5 n0 h0) room_1.cells room_1.slots (T89.setTop (mkF m 305 #[.val (.int x0), .val (.long x1), .second, .val (.long x2), .second, .val (.long x3), .second, .val (.long x4), .second, .val (.long x5), .second, .val (.int ((x0 &&& (7 : Int32)) % (6 : Int32))), .val (.long (own_f0_1 x0 x1 x2 x3 x4 x5)), .second, .val (.long (own_f0_2 x0 x1 x2 x3 x4 x5)), .second, .val (.long (own_f0_3 x0 x1 x2 x3 x4 x5)), .second, .val (.long (own_f0_4 x0 x1 x2 x3 x4 x5)), .second, .val (.long (own_f0_5 x0 x1 x2 x3 x4 x5)), .second, .val (.ref b6), .val (.int (own_f0_6 x0 x1 x2 x3 x4 x5)), .val (.ref a12), .val (.ref a45), .val (.int (0 : Int32))] []))
                      refine own_Goes.step (fun tq kq => XS.iload X89.here hx rfl (hb hby at_305) rfl kq) ?_
                      show own_Goes p e below s (own_F0 Z x0 x1 x2 x3 x4 x5 n0 h0) room_1.cells room_1.slots (T89.setTop (mkF m 307 #[.val (.int x0), .val (.long x1), .second, .val (.long x2), .second, .val (.long x3), .second, .val (.long x4), .second, .val (.long x5), .second, .val (.int ((x0 &&& (7 : Int32)) % (6 : Int32))), .val (.long (own_f0_1 x0 x1 x2 x3 x4 x5)), .second, .val (.long (own_f0_2 x0 x1 x2 x3 x4 x5)), .second, .val (.long (own_f0_3 x0 x1 x2 x3 x4 x5)), .second, .val (.long (own_f0_4 x0 x1 x2 x3 x4 x5)), .second, .val (.long (own_f0_5 x0 x1 x2 x3 x4 x5)), .second, .val (.ref b6), .val (.int (own_f0_6 x0 x1 x2 x3 x4 x5)), .val (.ref a12), .val (.ref a45), .val (.int (0 : Int32))] [(.int (0 : Int32))]))
                      refine own_Goes.step (fun tq kq => XS.ifYes X89.here hx rfl (pc0 := 307) (pc' := 331) rfl (hb hby at_307) rfl (XT.i0_eq_t (by decide)) (by decide) (by decide) kq) ?_
                      show own_Goes p e below s (own_F0 Z x0 x1 x2 x3 x4 x5 n0 h0) room_1.cells room_1.slots (T89.setTop (mkF m 331 #[.val (.int x0), .val (.long x1), .second, .val (.long x2), .second, .val (.long x3), .second, .val (.long x4), .second, .val (.long x5), .second, .val (.int ((x0 &&& (7 : Int32)) % (6 : Int32))), .val (.long (own_f0_1 x0 x1 x2 x3 x4 x5)), .second, .val (.long (own_f0_2 x0 x1 x2 x3 x4 x5)), .second, .val (.long (own_f0_3 x0 x1 x2 x3 x4 x5)), .second, .val (.long (own_f0_4 x0 x1 x2 x3 x4 x5)), .second, .val (.long (own_f0_5 x0 x1 x2 x3 x4 x5)), .second, .val (.ref b6), .val (.int (own_f0_6 x0 x1 x2 x3 x4 x5)), .val (.ref a12), .val (.ref a45), .val (.int (0 : Int32))] []))
                      refine own_Goes.step (fun tq kq => XT.iconstV X89.here hx rfl (0 : Int32) (hb hby at_331) (by decide) kq) ?_
                      show own_Goes p e below s (own_F0 Z x0 x1 x2 x3 x4 x5 n0 h0) room_1.cells room_1.slots (T89.setTop (mkF m 332 #[.val (.int x0), .val (.long x1), .second, .val (.long x2), .second, .val (.long x3), .second, .val (.long x4), .second, .val (.long x5), .second, .val (.int ((x0 &&& (7 : Int32)) % (6 : Int32))), .val (.long (own_f0_1 x0 x1 x2 x3 x4 x5)), .second, .val (.long (own_f0_2 x0 x1 x2 x3 x4 x5)), .second, .val (.long (own_f0_3 x0 x1 x2 x3 x4 x5)), .second, .val (.long (own_f0_4 x0 x1 x2 x3 x4 x5)), .second, .val (.long (own_f0_5 x0 x1 x2 x3 x4 x5)), .second, .val (.ref b6), .val (.int (own_f0_6 x0 x1 x2 x3 x4 x5)), .val (.ref a12), .val (.ref a45), .val (.int (0 : Int32))] [(.int (0 : Int32))]))
                      exact own_endN X89 hx Bd.notSynchronized (t := .boolean) Bd.returns (by simp) (hb hby at_332) ⟨(congrArg (fun z => some (Value.int z)) (show (0 : Int32) = own_f0 x0 x1 x2 x3 x4 x5 from by simp only [own_f0, if_neg hc8, if_neg hc10, if_neg hc11, if_pos hc90])), N87⟩ (by decide) (by decide)
                    · refine own_Goes.step (fun tq kq => XS.ifNo X89.here hx rfl (hb hby at_250) rfl (XT.i0_eq_f hc90) kq) ?_
                      show own_Goes p e below s (own_F0 Z x0 x1 x2 x3 x4 x5 n0 h0) room_1.cells room_1.slots (T89.setTop (mkF m 253 #[.val (.int x0), .val (.long x1), .second, .val (.long x2), .second, .val (.long x3), .second, .val (.long x4), .second, .val (.long x5), .second, .val (.int ((x0 &&& (7 : Int32)) % (6 : Int32))), .val (.long (own_f0_1 x0 x1 x2 x3 x4 x5)), .second, .val (.long (own_f0_2 x0 x1 x2 x3 x4 x5)), .second, .val (.long (own_f0_3 x0 x1 x2 x3 x4 x5)), .second, .val (.long (own_f0_4 x0 x1 x2 x3 x4 x5)), .second, .val (.long (own_f0_5 x0 x1 x2 x3 x4 x5)), .second, .val (.ref b6), .val (.int (own_f0_6 x0 x1 x2 x3 x4 x5)), .val (.ref a12), .val (.ref a45), .unset] []))
                      refine own_Goes.step (fun tq kq => XS.aload X89.here hx rfl (hb hby at_253) rfl rfl kq) ?_
                      show own_Goes p e below s (own_F0 Z x0 x1 x2 x3 x4 x5 n0 h0) room_1.cells room_1.slots (T89.setTop (mkF m 255 #[.val (.int x0), .val (.long x1), .second, .val (.long x2), .second, .val (.long x3), .second, .val (.long x4), .second, .val (.long x5), .second, .val (.int ((x0 &&& (7 : Int32)) % (6 : Int32))), .val (.long (own_f0_1 x0 x1 x2 x3 x4 x5)), .second, .val (.long (own_f0_2 x0 x1 x2 x3 x4 x5)), .second, .val (.long (own_f0_3 x0 x1 x2 x3 x4 x5)), .second, .val (.long (own_f0_4 x0 x1 x2 x3 x4 x5)), .second, .val (.long (own_f0_5 x0 x1 x2 x3 x4 x5)), .second, .val (.ref b6), .val (.int (own_f0_6 x0 x1 x2 x3 x4 x5)), .val (.ref a12), .val (.ref a45), .unset] [(.ref a12)]))
                      refine own_Goes.step (fun tq kq => XS.aload X89.here hx rfl (hb hby at_255) rfl rfl kq) ?_
                      show own_Goes p e below s (own_F0 Z x0 x1 x2 x3 x4 x5 n0 h0) room_1.cells room_1.slots (T89.setTop (mkF m 257 #[.val (.int x0), .val (.long x1), .second, .val (.long x2), .second, .val (.long x3), .second, .val (.long x4), .second, .val (.long x5), .second, .val (.int ((x0 &&& (7 : Int32)) % (6 : Int32))), .val (.long (own_f0_1 x0 x1 x2 x3 x4 x5)), .second, .val (.long (own_f0_2 x0 x1 x2 x3 x4 x5)), .second, .val (.long (own_f0_3 x0 x1 x2 x3 x4 x5)), .second, .val (.long (own_f0_4 x0 x1 x2 x3 x4 x5)), .second, .val (.long (own_f0_5 x0 x1 x2 x3 x4 x5)), .second, .val (.ref b6), .val (.int (own_f0_6 x0 x1 x2 x3 x4 x5)), .val (.ref a12), .val (.ref a45), .unset] [(.ref a45), (.ref a12)]))
                      refine own_Goes.step (fun tq kq => XS.iload X89.here hx rfl (hb hby at_257) rfl kq) ?_
                      show own_Goes p e below s (own_F0 Z x0 x1 x2 x3 x4 x5 n0 h0) room_1.cells room_1.slots (T89.setTop (mkF m 259 #[.val (.int x0), .val (.long x1), .second, .val (.long x2), .second, .val (.long x3), .second, .val (.long x4), .second, .val (.long x5), .second, .val (.int ((x0 &&& (7 : Int32)) % (6 : Int32))), .val (.long (own_f0_1 x0 x1 x2 x3 x4 x5)), .second, .val (.long (own_f0_2 x0 x1 x2 x3 x4 x5)), .second, .val (.long (own_f0_3 x0 x1 x2 x3 x4 x5)), .second, .val (.long (own_f0_4 x0 x1 x2 x3 x4 x5)), .second, .val (.long (own_f0_5 x0 x1 x2 x3 x4 x5)), .second, .val (.ref b6), .val (.int (own_f0_6 x0 x1 x2 x3 x4 x5)), .val (.ref a12), .val (.ref a45), .unset] [(.int (own_f0_6 x0 x1 x2 x3 x4 x5)), (.ref a45), (.ref a12)]))
                      refine own_Goes.step (fun tq kq => XS.iload X89.here hx rfl (hb hby at_259) rfl kq) ?_
                      show own_Goes p e below s (own_F0 Z x0 x1 x2 x3 x4 x5 n0 h0) room_1.cells room_1.slots (T89.setTop (mkF m 261 #[.val (.int x0), .val (.long x1), .second, .val (.long x2), .second, .val (.long x3), .second, .val (.long x4), .second, .val (.long x5), .second, .val (.int ((x0 &&& (7 : Int32)) % (6 : Int32))), .val (.long (own_f0_1 x0 x1 x2 x3 x4 x5)), .second, .val (.long (own_f0_2 x0 x1 x2 x3 x4 x5)), .second, .val (.long (own_f0_3 x0 x1 x2 x3 x4 x5)), .second, .val (.long (own_f0_4 x0 x1 x2 x3 x4 x5)), .second, .val (.long (own_f0_5 x0 x1 x2 x3 x4 x5)), .second, .val (.ref b6), .val (.int (own_f0_6 x0 x1 x2 x3 x4 x5)), .val (.ref a12), .val (.ref a45), .unset] [(.int ((x0 &&& (7 : Int32)) % (6 : Int32))), (.int (own_f0_6 x0 x1 x2 x3 x4 x5)), (.ref a45), (.ref a12)]))
                      refine own_Goes.step (fun tq kq => XT.iconstV X89.here hx rfl (2 : Int32) (hb hby at_261) (by decide) kq) ?_
                      show own_Goes p e below s (own_F0 Z x0 x1 x2 x3 x4 x5 n0 h0) room_1.cells room_1.slots (T89.setTop (mkF m 262 #[.val (.int x0), .val (.long x1), .second, .val (.long x2), .second, .val (.long x3), .second, .val (.long x4), .second, .val (.long x5), .second, .val (.int ((x0 &&& (7 : Int32)) % (6 : Int32))), .val (.long (own_f0_1 x0 x1 x2 x3 x4 x5)), .second, .val (.long (own_f0_2 x0 x1 x2 x3 x4 x5)), .second, .val (.long (own_f0_3 x0 x1 x2 x3 x4 x5)), .second, .val (.long (own_f0_4 x0 x1 x2 x3 x4 x5)), .second, .val (.long (own_f0_5 x0 x1 x2 x3 x4 x5)), .second, .val (.ref b6), .val (.int (own_f0_6 x0 x1 x2 x3 x4 x5)), .val (.ref a12), .val (.ref a45), .unset] [(.int (2 : Int32)), (.int ((x0 &&& (7 : Int32)) % (6 : Int32))), (.int (own_f0_6 x0 x1 x2 x3 x4 x5)), (.ref a45), (.ref a12)]))
                      obtain ⟨w91, T91, L91, q91, Y91, st91⟩ := own_stat X89 hx hZ e89 hown (hw _ (List.mem_of_getElem? (i := 12) rfl)) (hw _ (List.mem_of_getElem? (i := 13) rfl)) (hw _ (List.mem_of_getElem? (i := 2) rfl)) (hw _ (List.mem_of_getElem? (i := 14) rfl)) (by decide) (own_m3 l Z a0 hw [] a12 a45 (own_f0_6 x0 x1 x2 x3 x4 x5) ((x0 &&& (7 : Int32)) % (6 : Int32)) (2 : Int32) (own_f0_11 x0 x1 x2 x3 x4 x5) (own_f0_16 x0 x1 x2 x3 x4 x5) 1 n0 h82 f84 f85 rfl (by decide)) (by decide) (W := 0) (by decide) (by decide) (by decide) (g := (mkF m 262 #[.val (.int x0), .val (.long x1), .second, .val (.long x2), .second, .val (.long x3), .second, .val (.long x4), .second, .val (.long x5), .second, .val (.int ((x0 &&& (7 : Int32)) % (6 : Int32))), .val (.long (own_f0_1 x0 x1 x2 x3 x4 x5)), .second, .val (.long (own_f0_2 x0 x1 x2 x3 x4 x5)), .second, .val (.long (own_f0_3 x0 x1 x2 x3 x4 x5)), .second, .val (.long (own_f0_4 x0 x1 x2 x3 x4 x5)), .second, .val (.long (own_f0_5 x0 x1 x2 x3 x4 x5)), .second, .val (.ref b6), .val (.int (own_f0_6 x0 x1 x2 x3 x4 x5)), .val (.ref a12), .val (.ref a45), .unset] [(.int (2 : Int32)), (.int ((x0 &&& (7 : Int32)) % (6 : Int32))), (.int (own_f0_6 x0 x1 x2 x3 x4 x5)), (.ref a45), (.ref a12)])) rfl (by rw [hml]; rfl) (argsL := [(.ref a12), (.ref a45), (.int (own_f0_6 x0 x1 x2 x3 x4 x5)), (.int ((x0 &&& (7 : Int32)) % (6 : Int32))), (.int (2 : Int32))]) (rest := []) (lenOf pd_3 rfl) rfl (by show 2 * 0 + _ ≤ _; exact Nat.le_of_eq rfl) (hb hby at_262)
                      obtain ⟨e91, X91⟩ := own_clean q91 Y91 rfl rfl
                      obtain ⟨rfl, -, -⟩ := q91
                      refine own_Goes.step st91 ?_
                      show own_Goes p e below s (own_F0 Z x0 x1 x2 x3 x4 x5 n0 h0) room_1.cells room_1.slots (T91.setTop (mkF m 265 #[.val (.int x0), .val (.long x1), .second, .val (.long x2), .second, .val (.long x3), .second, .val (.long x4), .second, .val (.long x5), .second, .val (.int ((x0 &&& (7 : Int32)) % (6 : Int32))), .val (.long (own_f0_1 x0 x1 x2 x3 x4 x5)), .second, .val (.long (own_f0_2 x0 x1 x2 x3 x4 x5)), .second, .val (.long (own_f0_3 x0 x1 x2 x3 x4 x5)), .second, .val (.long (own_f0_4 x0 x1 x2 x3 x4 x5)), .second, .val (.long (own_f0_5 x0 x1 x2 x3 x4 x5)), .second, .val (.ref b6), .val (.int (own_f0_6 x0 x1 x2 x3 x4 x5)), .val (.ref a12), .val (.ref a45), .unset] [(.int (own_f3 (own_f0_6 x0 x1 x2 x3 x4 x5) ((x0 &&& (7 : Int32)) % (6 : Int32)) (2 : Int32) (own_f0_11 x0 x1 x2 x3 x4 x5) (own_f0_16 x0 x1 x2 x3 x4 x5) 1))]))
                      by_cases hc92 : (own_f3 (own_f0_6 x0 x1 x2 x3 x4 x5) ((x0 &&& (7 : Int32)) % (6 : Int32)) (2 : Int32) (own_f0_11 x0 x1 x2 x3 x4 x5) (own_f0_16 x0 x1 x2 x3 x4 x5) 1) = (0 : Int32)
                      · refine own_Goes.step (fun tq kq => XS.ifYes X91.here hx rfl (pc0 := 265) (pc' := 302) rfl (hb hby at_265) rfl (XT.i0_eq_t hc92) (by decide) (by decide) kq) ?_
                        show own_Goes p e below s (own_F0 Z x0 x1 x2 x3 x4 x5 n0 h0) room_1.cells room_1.slots (T91.setTop (mkF m 302 #[.val (.int x0), .val (.long x1), .second, .val (.long x2), .second, .val (.long x3), .second, .val (.long x4), .second, .val (.long x5), .second, .val (.int ((x0 &&& (7 : Int32)) % (6 : Int32))), .val (.long (own_f0_1 x0 x1 x2 x3 x4 x5)), .second, .val (.long (own_f0_2 x0 x1 x2 x3 x4 x5)), .second, .val (.long (own_f0_3 x0 x1 x2 x3 x4 x5)), .second, .val (.long (own_f0_4 x0 x1 x2 x3 x4 x5)), .second, .val (.long (own_f0_5 x0 x1 x2 x3 x4 x5)), .second, .val (.ref b6), .val (.int (own_f0_6 x0 x1 x2 x3 x4 x5)), .val (.ref a12), .val (.ref a45), .unset] []))
                        refine own_Goes.step (fun tq kq => XT.iconstV X91.here hx rfl (0 : Int32) (hb hby at_302) (by decide) kq) ?_
                        show own_Goes p e below s (own_F0 Z x0 x1 x2 x3 x4 x5 n0 h0) room_1.cells room_1.slots (T91.setTop (mkF m 303 #[.val (.int x0), .val (.long x1), .second, .val (.long x2), .second, .val (.long x3), .second, .val (.long x4), .second, .val (.long x5), .second, .val (.int ((x0 &&& (7 : Int32)) % (6 : Int32))), .val (.long (own_f0_1 x0 x1 x2 x3 x4 x5)), .second, .val (.long (own_f0_2 x0 x1 x2 x3 x4 x5)), .second, .val (.long (own_f0_3 x0 x1 x2 x3 x4 x5)), .second, .val (.long (own_f0_4 x0 x1 x2 x3 x4 x5)), .second, .val (.long (own_f0_5 x0 x1 x2 x3 x4 x5)), .second, .val (.ref b6), .val (.int (own_f0_6 x0 x1 x2 x3 x4 x5)), .val (.ref a12), .val (.ref a45), .unset] [(.int (0 : Int32))]))
                        refine own_Goes.step (fun tq kq => XS.istore X91.here hx rfl (hb hby at_303) rfl (l' := #[.val (.int x0), .val (.long x1), .second, .val (.long x2), .second, .val (.long x3), .second, .val (.long x4), .second, .val (.long x5), .second, .val (.int ((x0 &&& (7 : Int32)) % (6 : Int32))), .val (.long (own_f0_1 x0 x1 x2 x3 x4 x5)), .second, .val (.long (own_f0_2 x0 x1 x2 x3 x4 x5)), .second, .val (.long (own_f0_3 x0 x1 x2 x3 x4 x5)), .second, .val (.long (own_f0_4 x0 x1 x2 x3 x4 x5)), .second, .val (.long (own_f0_5 x0 x1 x2 x3 x4 x5)), .second, .val (.ref b6), .val (.int (own_f0_6 x0 x1 x2 x3 x4 x5)), .val (.ref a12), .val (.ref a45), .val (.int (0 : Int32))]) rfl kq) ?_
                        show own_Goes p e below s (own_F0 Z x0 x1 x2 x3 x4 x5 n0 h0) room_1.cells room_1.slots (T91.setTop (mkF m 305 #[.val (.int x0), .val (.long x1), .second, .val (.long x2), .second, .val (.long x3), .second, .val (.long x4), .second, .val (.long x5), .second, .val (.int ((x0 &&& (7 : Int32)) % (6 : Int32))), .val (.long (own_f0_1 x0 x1 x2 x3 x4 x5)), .second, .val (.long (own_f0_2 x0 x1 x2 x3 x4 x5)), .second, .val (.long (own_f0_3 x0 x1 x2 x3 x4 x5)), .second, .val (.long (own_f0_4 x0 x1 x2 x3 x4 x5)), .second, .val (.long (own_f0_5 x0 x1 x2 x3 x4 x5)), .second, .val (.ref b6), .val (.int (own_f0_6 x0 x1 x2 x3 x4 x5)), .val (.ref a12), .val (.ref a45), .val (.int (0 : Int32))] []))
                        refine own_Goes.step (fun tq kq => XS.iload X91.here hx rfl (hb hby at_305) rfl kq) ?_
                        show own_Goes p e below s (own_F0 Z x0 x1 x2 x3 x4 x5 n0 h0) room_1.cells room_1.slots (T91.setTop (mkF m 307 #[.val (.int x0), .val (.long x1), .second, .val (.long x2), .second, .val (.long x3), .second, .val (.long x4), .second, .val (.long x5), .second, .val (.int ((x0 &&& (7 : Int32)) % (6 : Int32))), .val (.long (own_f0_1 x0 x1 x2 x3 x4 x5)), .second, .val (.long (own_f0_2 x0 x1 x2 x3 x4 x5)), .second, .val (.long (own_f0_3 x0 x1 x2 x3 x4 x5)), .second, .val (.long (own_f0_4 x0 x1 x2 x3 x4 x5)), .second, .val (.long (own_f0_5 x0 x1 x2 x3 x4 x5)), .second, .val (.ref b6), .val (.int (own_f0_6 x0 x1 x2 x3 x4 x5)), .val (.ref a12), .val (.ref a45), .val (.int (0 : Int32))] [(.int (0 : Int32))]))
                        refine own_Goes.step (fun tq kq => XS.ifYes X91.here hx rfl (pc0 := 307) (pc' := 331) rfl (hb hby at_307) rfl (XT.i0_eq_t (by decide)) (by decide) (by decide) kq) ?_
                        show own_Goes p e below s (own_F0 Z x0 x1 x2 x3 x4 x5 n0 h0) room_1.cells room_1.slots (T91.setTop (mkF m 331 #[.val (.int x0), .val (.long x1), .second, .val (.long x2), .second, .val (.long x3), .second, .val (.long x4), .second, .val (.long x5), .second, .val (.int ((x0 &&& (7 : Int32)) % (6 : Int32))), .val (.long (own_f0_1 x0 x1 x2 x3 x4 x5)), .second, .val (.long (own_f0_2 x0 x1 x2 x3 x4 x5)), .second, .val (.long (own_f0_3 x0 x1 x2 x3 x4 x5)), .second, .val (.long (own_f0_4 x0 x1 x2 x3 x4 x5)), .second, .val (.long (own_f0_5 x0 x1 x2 x3 x4 x5)), .second, .val (.ref b6), .val (.int (own_f0_6 x0 x1 x2 x3 x4 x5)), .val (.ref a12), .val (.ref a45), .val (.int (0 : Int32))] []))
                        refine own_Goes.step (fun tq kq => XT.iconstV X91.here hx rfl (0 : Int32) (hb hby at_331) (by decide) kq) ?_
                        show own_Goes p e below s (own_F0 Z x0 x1 x2 x3 x4 x5 n0 h0) room_1.cells room_1.slots (T91.setTop (mkF m 332 #[.val (.int x0), .val (.long x1), .second, .val (.long x2), .second, .val (.long x3), .second, .val (.long x4), .second, .val (.long x5), .second, .val (.int ((x0 &&& (7 : Int32)) % (6 : Int32))), .val (.long (own_f0_1 x0 x1 x2 x3 x4 x5)), .second, .val (.long (own_f0_2 x0 x1 x2 x3 x4 x5)), .second, .val (.long (own_f0_3 x0 x1 x2 x3 x4 x5)), .second, .val (.long (own_f0_4 x0 x1 x2 x3 x4 x5)), .second, .val (.long (own_f0_5 x0 x1 x2 x3 x4 x5)), .second, .val (.ref b6), .val (.int (own_f0_6 x0 x1 x2 x3 x4 x5)), .val (.ref a12), .val (.ref a45), .val (.int (0 : Int32))] [(.int (0 : Int32))]))
                        exact own_endN X91 hx Bd.notSynchronized (t := .boolean) Bd.returns (by simp) (hb hby at_332) ⟨(congrArg (fun z => some (Value.int z)) (show (0 : Int32) = own_f0 x0 x1 x2 x3 x4 x5 from by simp only [own_f0, if_neg hc8, if_neg hc10, if_neg hc11, if_neg hc90, if_pos hc92])), N87⟩ (by decide) (by decide)
                      · refine own_Goes.step (fun tq kq => XS.ifNo X91.here hx rfl (hb hby at_265) rfl (XT.i0_eq_f hc92) kq) ?_
                        show own_Goes p e below s (own_F0 Z x0 x1 x2 x3 x4 x5 n0 h0) room_1.cells room_1.slots (T91.setTop (mkF m 268 #[.val (.int x0), .val (.long x1), .second, .val (.long x2), .second, .val (.long x3), .second, .val (.long x4), .second, .val (.long x5), .second, .val (.int ((x0 &&& (7 : Int32)) % (6 : Int32))), .val (.long (own_f0_1 x0 x1 x2 x3 x4 x5)), .second, .val (.long (own_f0_2 x0 x1 x2 x3 x4 x5)), .second, .val (.long (own_f0_3 x0 x1 x2 x3 x4 x5)), .second, .val (.long (own_f0_4 x0 x1 x2 x3 x4 x5)), .second, .val (.long (own_f0_5 x0 x1 x2 x3 x4 x5)), .second, .val (.ref b6), .val (.int (own_f0_6 x0 x1 x2 x3 x4 x5)), .val (.ref a12), .val (.ref a45), .unset] []))
                        refine own_Goes.step (fun tq kq => XS.aload X91.here hx rfl (hb hby at_268) rfl rfl kq) ?_
                        show own_Goes p e below s (own_F0 Z x0 x1 x2 x3 x4 x5 n0 h0) room_1.cells room_1.slots (T91.setTop (mkF m 270 #[.val (.int x0), .val (.long x1), .second, .val (.long x2), .second, .val (.long x3), .second, .val (.long x4), .second, .val (.long x5), .second, .val (.int ((x0 &&& (7 : Int32)) % (6 : Int32))), .val (.long (own_f0_1 x0 x1 x2 x3 x4 x5)), .second, .val (.long (own_f0_2 x0 x1 x2 x3 x4 x5)), .second, .val (.long (own_f0_3 x0 x1 x2 x3 x4 x5)), .second, .val (.long (own_f0_4 x0 x1 x2 x3 x4 x5)), .second, .val (.long (own_f0_5 x0 x1 x2 x3 x4 x5)), .second, .val (.ref b6), .val (.int (own_f0_6 x0 x1 x2 x3 x4 x5)), .val (.ref a12), .val (.ref a45), .unset] [(.ref a12)]))
                        refine own_Goes.step (fun tq kq => XS.aload X91.here hx rfl (hb hby at_270) rfl rfl kq) ?_
                        show own_Goes p e below s (own_F0 Z x0 x1 x2 x3 x4 x5 n0 h0) room_1.cells room_1.slots (T91.setTop (mkF m 272 #[.val (.int x0), .val (.long x1), .second, .val (.long x2), .second, .val (.long x3), .second, .val (.long x4), .second, .val (.long x5), .second, .val (.int ((x0 &&& (7 : Int32)) % (6 : Int32))), .val (.long (own_f0_1 x0 x1 x2 x3 x4 x5)), .second, .val (.long (own_f0_2 x0 x1 x2 x3 x4 x5)), .second, .val (.long (own_f0_3 x0 x1 x2 x3 x4 x5)), .second, .val (.long (own_f0_4 x0 x1 x2 x3 x4 x5)), .second, .val (.long (own_f0_5 x0 x1 x2 x3 x4 x5)), .second, .val (.ref b6), .val (.int (own_f0_6 x0 x1 x2 x3 x4 x5)), .val (.ref a12), .val (.ref a45), .unset] [(.ref a45), (.ref a12)]))
                        refine own_Goes.step (fun tq kq => XS.iload X91.here hx rfl (hb hby at_272) rfl kq) ?_
                        show own_Goes p e below s (own_F0 Z x0 x1 x2 x3 x4 x5 n0 h0) room_1.cells room_1.slots (T91.setTop (mkF m 274 #[.val (.int x0), .val (.long x1), .second, .val (.long x2), .second, .val (.long x3), .second, .val (.long x4), .second, .val (.long x5), .second, .val (.int ((x0 &&& (7 : Int32)) % (6 : Int32))), .val (.long (own_f0_1 x0 x1 x2 x3 x4 x5)), .second, .val (.long (own_f0_2 x0 x1 x2 x3 x4 x5)), .second, .val (.long (own_f0_3 x0 x1 x2 x3 x4 x5)), .second, .val (.long (own_f0_4 x0 x1 x2 x3 x4 x5)), .second, .val (.long (own_f0_5 x0 x1 x2 x3 x4 x5)), .second, .val (.ref b6), .val (.int (own_f0_6 x0 x1 x2 x3 x4 x5)), .val (.ref a12), .val (.ref a45), .unset] [(.int (own_f0_6 x0 x1 x2 x3 x4 x5)), (.ref a45), (.ref a12)]))
                        refine own_Goes.step (fun tq kq => XS.iload X91.here hx rfl (hb hby at_274) rfl kq) ?_
                        show own_Goes p e below s (own_F0 Z x0 x1 x2 x3 x4 x5 n0 h0) room_1.cells room_1.slots (T91.setTop (mkF m 276 #[.val (.int x0), .val (.long x1), .second, .val (.long x2), .second, .val (.long x3), .second, .val (.long x4), .second, .val (.long x5), .second, .val (.int ((x0 &&& (7 : Int32)) % (6 : Int32))), .val (.long (own_f0_1 x0 x1 x2 x3 x4 x5)), .second, .val (.long (own_f0_2 x0 x1 x2 x3 x4 x5)), .second, .val (.long (own_f0_3 x0 x1 x2 x3 x4 x5)), .second, .val (.long (own_f0_4 x0 x1 x2 x3 x4 x5)), .second, .val (.long (own_f0_5 x0 x1 x2 x3 x4 x5)), .second, .val (.ref b6), .val (.int (own_f0_6 x0 x1 x2 x3 x4 x5)), .val (.ref a12), .val (.ref a45), .unset] [(.int ((x0 &&& (7 : Int32)) % (6 : Int32))), (.int (own_f0_6 x0 x1 x2 x3 x4 x5)), (.ref a45), (.ref a12)]))
                        refine own_Goes.step (fun tq kq => XT.iconstV X91.here hx rfl (3 : Int32) (hb hby at_276) (by decide) kq) ?_
                        show own_Goes p e below s (own_F0 Z x0 x1 x2 x3 x4 x5 n0 h0) room_1.cells room_1.slots (T91.setTop (mkF m 277 #[.val (.int x0), .val (.long x1), .second, .val (.long x2), .second, .val (.long x3), .second, .val (.long x4), .second, .val (.long x5), .second, .val (.int ((x0 &&& (7 : Int32)) % (6 : Int32))), .val (.long (own_f0_1 x0 x1 x2 x3 x4 x5)), .second, .val (.long (own_f0_2 x0 x1 x2 x3 x4 x5)), .second, .val (.long (own_f0_3 x0 x1 x2 x3 x4 x5)), .second, .val (.long (own_f0_4 x0 x1 x2 x3 x4 x5)), .second, .val (.long (own_f0_5 x0 x1 x2 x3 x4 x5)), .second, .val (.ref b6), .val (.int (own_f0_6 x0 x1 x2 x3 x4 x5)), .val (.ref a12), .val (.ref a45), .unset] [(.int (3 : Int32)), (.int ((x0 &&& (7 : Int32)) % (6 : Int32))), (.int (own_f0_6 x0 x1 x2 x3 x4 x5)), (.ref a45), (.ref a12)]))
                        obtain ⟨w93, T93, L93, q93, Y93, st93⟩ := own_stat X91 hx hZ e91 hown (hw _ (List.mem_of_getElem? (i := 12) rfl)) (hw _ (List.mem_of_getElem? (i := 13) rfl)) (hw _ (List.mem_of_getElem? (i := 2) rfl)) (hw _ (List.mem_of_getElem? (i := 14) rfl)) (by decide) (own_m3 l Z a0 hw [] a12 a45 (own_f0_6 x0 x1 x2 x3 x4 x5) ((x0 &&& (7 : Int32)) % (6 : Int32)) (3 : Int32) (own_f0_11 x0 x1 x2 x3 x4 x5) (own_f0_16 x0 x1 x2 x3 x4 x5) 2 n0 h82 f84 f85 rfl (by decide)) (by decide) (W := 0) (by decide) (by decide) (by decide) (g := (mkF m 277 #[.val (.int x0), .val (.long x1), .second, .val (.long x2), .second, .val (.long x3), .second, .val (.long x4), .second, .val (.long x5), .second, .val (.int ((x0 &&& (7 : Int32)) % (6 : Int32))), .val (.long (own_f0_1 x0 x1 x2 x3 x4 x5)), .second, .val (.long (own_f0_2 x0 x1 x2 x3 x4 x5)), .second, .val (.long (own_f0_3 x0 x1 x2 x3 x4 x5)), .second, .val (.long (own_f0_4 x0 x1 x2 x3 x4 x5)), .second, .val (.long (own_f0_5 x0 x1 x2 x3 x4 x5)), .second, .val (.ref b6), .val (.int (own_f0_6 x0 x1 x2 x3 x4 x5)), .val (.ref a12), .val (.ref a45), .unset] [(.int (3 : Int32)), (.int ((x0 &&& (7 : Int32)) % (6 : Int32))), (.int (own_f0_6 x0 x1 x2 x3 x4 x5)), (.ref a45), (.ref a12)])) rfl (by rw [hml]; rfl) (argsL := [(.ref a12), (.ref a45), (.int (own_f0_6 x0 x1 x2 x3 x4 x5)), (.int ((x0 &&& (7 : Int32)) % (6 : Int32))), (.int (3 : Int32))]) (rest := []) (lenOf pd_3 rfl) rfl (by show 2 * 0 + _ ≤ _; exact Nat.le_of_eq rfl) (hb hby at_277)
                        obtain ⟨e93, X93⟩ := own_clean q93 Y93 rfl rfl
                        obtain ⟨rfl, -, -⟩ := q93
                        refine own_Goes.step st93 ?_
                        show own_Goes p e below s (own_F0 Z x0 x1 x2 x3 x4 x5 n0 h0) room_1.cells room_1.slots (T93.setTop (mkF m 280 #[.val (.int x0), .val (.long x1), .second, .val (.long x2), .second, .val (.long x3), .second, .val (.long x4), .second, .val (.long x5), .second, .val (.int ((x0 &&& (7 : Int32)) % (6 : Int32))), .val (.long (own_f0_1 x0 x1 x2 x3 x4 x5)), .second, .val (.long (own_f0_2 x0 x1 x2 x3 x4 x5)), .second, .val (.long (own_f0_3 x0 x1 x2 x3 x4 x5)), .second, .val (.long (own_f0_4 x0 x1 x2 x3 x4 x5)), .second, .val (.long (own_f0_5 x0 x1 x2 x3 x4 x5)), .second, .val (.ref b6), .val (.int (own_f0_6 x0 x1 x2 x3 x4 x5)), .val (.ref a12), .val (.ref a45), .unset] [(.int (own_f3 (own_f0_6 x0 x1 x2 x3 x4 x5) ((x0 &&& (7 : Int32)) % (6 : Int32)) (3 : Int32) (own_f0_11 x0 x1 x2 x3 x4 x5) (own_f0_16 x0 x1 x2 x3 x4 x5) 2))]))
                        by_cases hc94 : (own_f3 (own_f0_6 x0 x1 x2 x3 x4 x5) ((x0 &&& (7 : Int32)) % (6 : Int32)) (3 : Int32) (own_f0_11 x0 x1 x2 x3 x4 x5) (own_f0_16 x0 x1 x2 x3 x4 x5) 2) = (0 : Int32)
                        · refine own_Goes.step (fun tq kq => XS.ifYes X93.here hx rfl (pc0 := 280) (pc' := 302) rfl (hb hby at_280) rfl (XT.i0_eq_t hc94) (by decide) (by decide) kq) ?_
                          show own_Goes p e below s (own_F0 Z x0 x1 x2 x3 x4 x5 n0 h0) room_1.cells room_1.slots (T93.setTop (mkF m 302 #[.val (.int x0), .val (.long x1), .second, .val (.long x2), .second, .val (.long x3), .second, .val (.long x4), .second, .val (.long x5), .second, .val (.int ((x0 &&& (7 : Int32)) % (6 : Int32))), .val (.long (own_f0_1 x0 x1 x2 x3 x4 x5)), .second, .val (.long (own_f0_2 x0 x1 x2 x3 x4 x5)), .second, .val (.long (own_f0_3 x0 x1 x2 x3 x4 x5)), .second, .val (.long (own_f0_4 x0 x1 x2 x3 x4 x5)), .second, .val (.long (own_f0_5 x0 x1 x2 x3 x4 x5)), .second, .val (.ref b6), .val (.int (own_f0_6 x0 x1 x2 x3 x4 x5)), .val (.ref a12), .val (.ref a45), .unset] []))
                          refine own_Goes.step (fun tq kq => XT.iconstV X93.here hx rfl (0 : Int32) (hb hby at_302) (by decide) kq) ?_
                          show own_Goes p e below s (own_F0 Z x0 x1 x2 x3 x4 x5 n0 h0) room_1.cells room_1.slots (T93.setTop (mkF m 303 #[.val (.int x0), .val (.long x1), .second, .val (.long x2), .second, .val (.long x3), .second, .val (.long x4), .second, .val (.long x5), .second, .val (.int ((x0 &&& (7 : Int32)) % (6 : Int32))), .val (.long (own_f0_1 x0 x1 x2 x3 x4 x5)), .second, .val (.long (own_f0_2 x0 x1 x2 x3 x4 x5)), .second, .val (.long (own_f0_3 x0 x1 x2 x3 x4 x5)), .second, .val (.long (own_f0_4 x0 x1 x2 x3 x4 x5)), .second, .val (.long (own_f0_5 x0 x1 x2 x3 x4 x5)), .second, .val (.ref b6), .val (.int (own_f0_6 x0 x1 x2 x3 x4 x5)), .val (.ref a12), .val (.ref a45), .unset] [(.int (0 : Int32))]))
                          refine own_Goes.step (fun tq kq => XS.istore X93.here hx rfl (hb hby at_303) rfl (l' := #[.val (.int x0), .val (.long x1), .second, .val (.long x2), .second, .val (.long x3), .second, .val (.long x4), .second, .val (.long x5), .second, .val (.int ((x0 &&& (7 : Int32)) % (6 : Int32))), .val (.long (own_f0_1 x0 x1 x2 x3 x4 x5)), .second, .val (.long (own_f0_2 x0 x1 x2 x3 x4 x5)), .second, .val (.long (own_f0_3 x0 x1 x2 x3 x4 x5)), .second, .val (.long (own_f0_4 x0 x1 x2 x3 x4 x5)), .second, .val (.long (own_f0_5 x0 x1 x2 x3 x4 x5)), .second, .val (.ref b6), .val (.int (own_f0_6 x0 x1 x2 x3 x4 x5)), .val (.ref a12), .val (.ref a45), .val (.int (0 : Int32))]) rfl kq) ?_
                          show own_Goes p e below s (own_F0 Z x0 x1 x2 x3 x4 x5 n0 h0) room_1.cells room_1.slots (T93.setTop (mkF m 305 #[.val (.int x0), .val (.long x1), .second, .val (.long x2), .second, .val (.long x3), .second, .val (.long x4), .second, .val (.long x5), .second, .val (.int ((x0 &&& (7 : Int32)) % (6 : Int32))), .val (.long (own_f0_1 x0 x1 x2 x3 x4 x5)), .second, .val (.long (own_f0_2 x0 x1 x2 x3 x4 x5)), .second, .val (.long (own_f0_3 x0 x1 x2 x3 x4 x5)), .second, .val (.long (own_f0_4 x0 x1 x2 x3 x4 x5)), .second, .val (.long (own_f0_5 x0 x1 x2 x3 x4 x5)), .second, .val (.ref b6), .val (.int (own_f0_6 x0 x1 x2 x3 x4 x5)), .val (.ref a12), .val (.ref a45), .val (.int (0 : Int32))] []))
                          refine own_Goes.step (fun tq kq => XS.iload X93.here hx rfl (hb hby at_305) rfl kq) ?_
                          show own_Goes p e below s (own_F0 Z x0 x1 x2 x3 x4 x5 n0 h0) room_1.cells room_1.slots (T93.setTop (mkF m 307 #[.val (.int x0), .val (.long x1), .second, .val (.long x2), .second, .val (.long x3), .second, .val (.long x4), .second, .val (.long x5), .second, .val (.int ((x0 &&& (7 : Int32)) % (6 : Int32))), .val (.long (own_f0_1 x0 x1 x2 x3 x4 x5)), .second, .val (.long (own_f0_2 x0 x1 x2 x3 x4 x5)), .second, .val (.long (own_f0_3 x0 x1 x2 x3 x4 x5)), .second, .val (.long (own_f0_4 x0 x1 x2 x3 x4 x5)), .second, .val (.long (own_f0_5 x0 x1 x2 x3 x4 x5)), .second, .val (.ref b6), .val (.int (own_f0_6 x0 x1 x2 x3 x4 x5)), .val (.ref a12), .val (.ref a45), .val (.int (0 : Int32))] [(.int (0 : Int32))]))
                          refine own_Goes.step (fun tq kq => XS.ifYes X93.here hx rfl (pc0 := 307) (pc' := 331) rfl (hb hby at_307) rfl (XT.i0_eq_t (by decide)) (by decide) (by decide) kq) ?_
                          show own_Goes p e below s (own_F0 Z x0 x1 x2 x3 x4 x5 n0 h0) room_1.cells room_1.slots (T93.setTop (mkF m 331 #[.val (.int x0), .val (.long x1), .second, .val (.long x2), .second, .val (.long x3), .second, .val (.long x4), .second, .val (.long x5), .second, .val (.int ((x0 &&& (7 : Int32)) % (6 : Int32))), .val (.long (own_f0_1 x0 x1 x2 x3 x4 x5)), .second, .val (.long (own_f0_2 x0 x1 x2 x3 x4 x5)), .second, .val (.long (own_f0_3 x0 x1 x2 x3 x4 x5)), .second, .val (.long (own_f0_4 x0 x1 x2 x3 x4 x5)), .second, .val (.long (own_f0_5 x0 x1 x2 x3 x4 x5)), .second, .val (.ref b6), .val (.int (own_f0_6 x0 x1 x2 x3 x4 x5)), .val (.ref a12), .val (.ref a45), .val (.int (0 : Int32))] []))
                          refine own_Goes.step (fun tq kq => XT.iconstV X93.here hx rfl (0 : Int32) (hb hby at_331) (by decide) kq) ?_
                          show own_Goes p e below s (own_F0 Z x0 x1 x2 x3 x4 x5 n0 h0) room_1.cells room_1.slots (T93.setTop (mkF m 332 #[.val (.int x0), .val (.long x1), .second, .val (.long x2), .second, .val (.long x3), .second, .val (.long x4), .second, .val (.long x5), .second, .val (.int ((x0 &&& (7 : Int32)) % (6 : Int32))), .val (.long (own_f0_1 x0 x1 x2 x3 x4 x5)), .second, .val (.long (own_f0_2 x0 x1 x2 x3 x4 x5)), .second, .val (.long (own_f0_3 x0 x1 x2 x3 x4 x5)), .second, .val (.long (own_f0_4 x0 x1 x2 x3 x4 x5)), .second, .val (.long (own_f0_5 x0 x1 x2 x3 x4 x5)), .second, .val (.ref b6), .val (.int (own_f0_6 x0 x1 x2 x3 x4 x5)), .val (.ref a12), .val (.ref a45), .val (.int (0 : Int32))] [(.int (0 : Int32))]))
                          exact own_endN X93 hx Bd.notSynchronized (t := .boolean) Bd.returns (by simp) (hb hby at_332) ⟨(congrArg (fun z => some (Value.int z)) (show (0 : Int32) = own_f0 x0 x1 x2 x3 x4 x5 from by simp only [own_f0, if_neg hc8, if_neg hc10, if_neg hc11, if_neg hc90, if_neg hc92, if_pos hc94])), N87⟩ (by decide) (by decide)
                        · refine own_Goes.step (fun tq kq => XS.ifNo X93.here hx rfl (hb hby at_280) rfl (XT.i0_eq_f hc94) kq) ?_
                          show own_Goes p e below s (own_F0 Z x0 x1 x2 x3 x4 x5 n0 h0) room_1.cells room_1.slots (T93.setTop (mkF m 283 #[.val (.int x0), .val (.long x1), .second, .val (.long x2), .second, .val (.long x3), .second, .val (.long x4), .second, .val (.long x5), .second, .val (.int ((x0 &&& (7 : Int32)) % (6 : Int32))), .val (.long (own_f0_1 x0 x1 x2 x3 x4 x5)), .second, .val (.long (own_f0_2 x0 x1 x2 x3 x4 x5)), .second, .val (.long (own_f0_3 x0 x1 x2 x3 x4 x5)), .second, .val (.long (own_f0_4 x0 x1 x2 x3 x4 x5)), .second, .val (.long (own_f0_5 x0 x1 x2 x3 x4 x5)), .second, .val (.ref b6), .val (.int (own_f0_6 x0 x1 x2 x3 x4 x5)), .val (.ref a12), .val (.ref a45), .unset] []))
                          refine own_Goes.step (fun tq kq => XS.aload X93.here hx rfl (hb hby at_283) rfl rfl kq) ?_
                          show own_Goes p e below s (own_F0 Z x0 x1 x2 x3 x4 x5 n0 h0) room_1.cells room_1.slots (T93.setTop (mkF m 285 #[.val (.int x0), .val (.long x1), .second, .val (.long x2), .second, .val (.long x3), .second, .val (.long x4), .second, .val (.long x5), .second, .val (.int ((x0 &&& (7 : Int32)) % (6 : Int32))), .val (.long (own_f0_1 x0 x1 x2 x3 x4 x5)), .second, .val (.long (own_f0_2 x0 x1 x2 x3 x4 x5)), .second, .val (.long (own_f0_3 x0 x1 x2 x3 x4 x5)), .second, .val (.long (own_f0_4 x0 x1 x2 x3 x4 x5)), .second, .val (.long (own_f0_5 x0 x1 x2 x3 x4 x5)), .second, .val (.ref b6), .val (.int (own_f0_6 x0 x1 x2 x3 x4 x5)), .val (.ref a12), .val (.ref a45), .unset] [(.ref a12)]))
                          refine own_Goes.step (fun tq kq => XS.aload X93.here hx rfl (hb hby at_285) rfl rfl kq) ?_
                          show own_Goes p e below s (own_F0 Z x0 x1 x2 x3 x4 x5 n0 h0) room_1.cells room_1.slots (T93.setTop (mkF m 287 #[.val (.int x0), .val (.long x1), .second, .val (.long x2), .second, .val (.long x3), .second, .val (.long x4), .second, .val (.long x5), .second, .val (.int ((x0 &&& (7 : Int32)) % (6 : Int32))), .val (.long (own_f0_1 x0 x1 x2 x3 x4 x5)), .second, .val (.long (own_f0_2 x0 x1 x2 x3 x4 x5)), .second, .val (.long (own_f0_3 x0 x1 x2 x3 x4 x5)), .second, .val (.long (own_f0_4 x0 x1 x2 x3 x4 x5)), .second, .val (.long (own_f0_5 x0 x1 x2 x3 x4 x5)), .second, .val (.ref b6), .val (.int (own_f0_6 x0 x1 x2 x3 x4 x5)), .val (.ref a12), .val (.ref a45), .unset] [(.ref a45), (.ref a12)]))
                          refine own_Goes.step (fun tq kq => XS.iload X93.here hx rfl (hb hby at_287) rfl kq) ?_
                          show own_Goes p e below s (own_F0 Z x0 x1 x2 x3 x4 x5 n0 h0) room_1.cells room_1.slots (T93.setTop (mkF m 289 #[.val (.int x0), .val (.long x1), .second, .val (.long x2), .second, .val (.long x3), .second, .val (.long x4), .second, .val (.long x5), .second, .val (.int ((x0 &&& (7 : Int32)) % (6 : Int32))), .val (.long (own_f0_1 x0 x1 x2 x3 x4 x5)), .second, .val (.long (own_f0_2 x0 x1 x2 x3 x4 x5)), .second, .val (.long (own_f0_3 x0 x1 x2 x3 x4 x5)), .second, .val (.long (own_f0_4 x0 x1 x2 x3 x4 x5)), .second, .val (.long (own_f0_5 x0 x1 x2 x3 x4 x5)), .second, .val (.ref b6), .val (.int (own_f0_6 x0 x1 x2 x3 x4 x5)), .val (.ref a12), .val (.ref a45), .unset] [(.int (own_f0_6 x0 x1 x2 x3 x4 x5)), (.ref a45), (.ref a12)]))
                          refine own_Goes.step (fun tq kq => XS.iload X93.here hx rfl (hb hby at_289) rfl kq) ?_
                          show own_Goes p e below s (own_F0 Z x0 x1 x2 x3 x4 x5 n0 h0) room_1.cells room_1.slots (T93.setTop (mkF m 291 #[.val (.int x0), .val (.long x1), .second, .val (.long x2), .second, .val (.long x3), .second, .val (.long x4), .second, .val (.long x5), .second, .val (.int ((x0 &&& (7 : Int32)) % (6 : Int32))), .val (.long (own_f0_1 x0 x1 x2 x3 x4 x5)), .second, .val (.long (own_f0_2 x0 x1 x2 x3 x4 x5)), .second, .val (.long (own_f0_3 x0 x1 x2 x3 x4 x5)), .second, .val (.long (own_f0_4 x0 x1 x2 x3 x4 x5)), .second, .val (.long (own_f0_5 x0 x1 x2 x3 x4 x5)), .second, .val (.ref b6), .val (.int (own_f0_6 x0 x1 x2 x3 x4 x5)), .val (.ref a12), .val (.ref a45), .unset] [(.int ((x0 &&& (7 : Int32)) % (6 : Int32))), (.int (own_f0_6 x0 x1 x2 x3 x4 x5)), (.ref a45), (.ref a12)]))
                          refine own_Goes.step (fun tq kq => XT.iconstV X93.here hx rfl (4 : Int32) (hb hby at_291) (by decide) kq) ?_
                          show own_Goes p e below s (own_F0 Z x0 x1 x2 x3 x4 x5 n0 h0) room_1.cells room_1.slots (T93.setTop (mkF m 292 #[.val (.int x0), .val (.long x1), .second, .val (.long x2), .second, .val (.long x3), .second, .val (.long x4), .second, .val (.long x5), .second, .val (.int ((x0 &&& (7 : Int32)) % (6 : Int32))), .val (.long (own_f0_1 x0 x1 x2 x3 x4 x5)), .second, .val (.long (own_f0_2 x0 x1 x2 x3 x4 x5)), .second, .val (.long (own_f0_3 x0 x1 x2 x3 x4 x5)), .second, .val (.long (own_f0_4 x0 x1 x2 x3 x4 x5)), .second, .val (.long (own_f0_5 x0 x1 x2 x3 x4 x5)), .second, .val (.ref b6), .val (.int (own_f0_6 x0 x1 x2 x3 x4 x5)), .val (.ref a12), .val (.ref a45), .unset] [(.int (4 : Int32)), (.int ((x0 &&& (7 : Int32)) % (6 : Int32))), (.int (own_f0_6 x0 x1 x2 x3 x4 x5)), (.ref a45), (.ref a12)]))
                          obtain ⟨w95, T95, L95, q95, Y95, st95⟩ := own_stat X93 hx hZ e93 hown (hw _ (List.mem_of_getElem? (i := 12) rfl)) (hw _ (List.mem_of_getElem? (i := 13) rfl)) (hw _ (List.mem_of_getElem? (i := 2) rfl)) (hw _ (List.mem_of_getElem? (i := 14) rfl)) (by decide) (own_m3 l Z a0 hw [] a12 a45 (own_f0_6 x0 x1 x2 x3 x4 x5) ((x0 &&& (7 : Int32)) % (6 : Int32)) (4 : Int32) (own_f0_11 x0 x1 x2 x3 x4 x5) (own_f0_16 x0 x1 x2 x3 x4 x5) 3 n0 h82 f84 f85 rfl (by decide)) (by decide) (W := 0) (by decide) (by decide) (by decide) (g := (mkF m 292 #[.val (.int x0), .val (.long x1), .second, .val (.long x2), .second, .val (.long x3), .second, .val (.long x4), .second, .val (.long x5), .second, .val (.int ((x0 &&& (7 : Int32)) % (6 : Int32))), .val (.long (own_f0_1 x0 x1 x2 x3 x4 x5)), .second, .val (.long (own_f0_2 x0 x1 x2 x3 x4 x5)), .second, .val (.long (own_f0_3 x0 x1 x2 x3 x4 x5)), .second, .val (.long (own_f0_4 x0 x1 x2 x3 x4 x5)), .second, .val (.long (own_f0_5 x0 x1 x2 x3 x4 x5)), .second, .val (.ref b6), .val (.int (own_f0_6 x0 x1 x2 x3 x4 x5)), .val (.ref a12), .val (.ref a45), .unset] [(.int (4 : Int32)), (.int ((x0 &&& (7 : Int32)) % (6 : Int32))), (.int (own_f0_6 x0 x1 x2 x3 x4 x5)), (.ref a45), (.ref a12)])) rfl (by rw [hml]; rfl) (argsL := [(.ref a12), (.ref a45), (.int (own_f0_6 x0 x1 x2 x3 x4 x5)), (.int ((x0 &&& (7 : Int32)) % (6 : Int32))), (.int (4 : Int32))]) (rest := []) (lenOf pd_3 rfl) rfl (by show 2 * 0 + _ ≤ _; exact Nat.le_of_eq rfl) (hb hby at_292)
                          obtain ⟨e95, X95⟩ := own_clean q95 Y95 rfl rfl
                          obtain ⟨rfl, -, -⟩ := q95
                          refine own_Goes.step st95 ?_
                          show own_Goes p e below s (own_F0 Z x0 x1 x2 x3 x4 x5 n0 h0) room_1.cells room_1.slots (T95.setTop (mkF m 295 #[.val (.int x0), .val (.long x1), .second, .val (.long x2), .second, .val (.long x3), .second, .val (.long x4), .second, .val (.long x5), .second, .val (.int ((x0 &&& (7 : Int32)) % (6 : Int32))), .val (.long (own_f0_1 x0 x1 x2 x3 x4 x5)), .second, .val (.long (own_f0_2 x0 x1 x2 x3 x4 x5)), .second, .val (.long (own_f0_3 x0 x1 x2 x3 x4 x5)), .second, .val (.long (own_f0_4 x0 x1 x2 x3 x4 x5)), .second, .val (.long (own_f0_5 x0 x1 x2 x3 x4 x5)), .second, .val (.ref b6), .val (.int (own_f0_6 x0 x1 x2 x3 x4 x5)), .val (.ref a12), .val (.ref a45), .unset] [(.int (own_f3 (own_f0_6 x0 x1 x2 x3 x4 x5) ((x0 &&& (7 : Int32)) % (6 : Int32)) (4 : Int32) (own_f0_11 x0 x1 x2 x3 x4 x5) (own_f0_16 x0 x1 x2 x3 x4 x5) 3))]))
                          have J101 : own_Goes p e below s (own_F0 Z x0 x1 x2 x3 x4 x5 n0 h0) room_1.cells room_1.slots (T95.setTop (mkF m 303 #[.val (.int x0), .val (.long x1), .second, .val (.long x2), .second, .val (.long x3), .second, .val (.long x4), .second, .val (.long x5), .second, .val (.int ((x0 &&& (7 : Int32)) % (6 : Int32))), .val (.long (own_f0_1 x0 x1 x2 x3 x4 x5)), .second, .val (.long (own_f0_2 x0 x1 x2 x3 x4 x5)), .second, .val (.long (own_f0_3 x0 x1 x2 x3 x4 x5)), .second, .val (.long (own_f0_4 x0 x1 x2 x3 x4 x5)), .second, .val (.long (own_f0_5 x0 x1 x2 x3 x4 x5)), .second, .val (.ref b6), .val (.int (own_f0_6 x0 x1 x2 x3 x4 x5)), .val (.ref a12), .val (.ref a45), .unset] [(.int (own_f0_17 x0 x1 x2 x3 x4 x5))])) := by
                            refine own_Goes.step (fun tq kq => XS.istore X95.here hx rfl (hb hby at_303) rfl (l' := #[.val (.int x0), .val (.long x1), .second, .val (.long x2), .second, .val (.long x3), .second, .val (.long x4), .second, .val (.long x5), .second, .val (.int ((x0 &&& (7 : Int32)) % (6 : Int32))), .val (.long (own_f0_1 x0 x1 x2 x3 x4 x5)), .second, .val (.long (own_f0_2 x0 x1 x2 x3 x4 x5)), .second, .val (.long (own_f0_3 x0 x1 x2 x3 x4 x5)), .second, .val (.long (own_f0_4 x0 x1 x2 x3 x4 x5)), .second, .val (.long (own_f0_5 x0 x1 x2 x3 x4 x5)), .second, .val (.ref b6), .val (.int (own_f0_6 x0 x1 x2 x3 x4 x5)), .val (.ref a12), .val (.ref a45), .val (.int (own_f0_17 x0 x1 x2 x3 x4 x5))]) rfl kq) ?_
                            show own_Goes p e below s (own_F0 Z x0 x1 x2 x3 x4 x5 n0 h0) room_1.cells room_1.slots (T95.setTop (mkF m 305 #[.val (.int x0), .val (.long x1), .second, .val (.long x2), .second, .val (.long x3), .second, .val (.long x4), .second, .val (.long x5), .second, .val (.int ((x0 &&& (7 : Int32)) % (6 : Int32))), .val (.long (own_f0_1 x0 x1 x2 x3 x4 x5)), .second, .val (.long (own_f0_2 x0 x1 x2 x3 x4 x5)), .second, .val (.long (own_f0_3 x0 x1 x2 x3 x4 x5)), .second, .val (.long (own_f0_4 x0 x1 x2 x3 x4 x5)), .second, .val (.long (own_f0_5 x0 x1 x2 x3 x4 x5)), .second, .val (.ref b6), .val (.int (own_f0_6 x0 x1 x2 x3 x4 x5)), .val (.ref a12), .val (.ref a45), .val (.int (own_f0_17 x0 x1 x2 x3 x4 x5))] []))
                            refine own_Goes.step (fun tq kq => XS.iload X95.here hx rfl (hb hby at_305) rfl kq) ?_
                            show own_Goes p e below s (own_F0 Z x0 x1 x2 x3 x4 x5 n0 h0) room_1.cells room_1.slots (T95.setTop (mkF m 307 #[.val (.int x0), .val (.long x1), .second, .val (.long x2), .second, .val (.long x3), .second, .val (.long x4), .second, .val (.long x5), .second, .val (.int ((x0 &&& (7 : Int32)) % (6 : Int32))), .val (.long (own_f0_1 x0 x1 x2 x3 x4 x5)), .second, .val (.long (own_f0_2 x0 x1 x2 x3 x4 x5)), .second, .val (.long (own_f0_3 x0 x1 x2 x3 x4 x5)), .second, .val (.long (own_f0_4 x0 x1 x2 x3 x4 x5)), .second, .val (.long (own_f0_5 x0 x1 x2 x3 x4 x5)), .second, .val (.ref b6), .val (.int (own_f0_6 x0 x1 x2 x3 x4 x5)), .val (.ref a12), .val (.ref a45), .val (.int (own_f0_17 x0 x1 x2 x3 x4 x5))] [(.int (own_f0_17 x0 x1 x2 x3 x4 x5))]))
                            by_cases hc97 : (own_f0_17 x0 x1 x2 x3 x4 x5) = (0 : Int32)
                            · refine own_Goes.step (fun tq kq => XS.ifYes X95.here hx rfl (pc0 := 307) (pc' := 331) rfl (hb hby at_307) rfl (XT.i0_eq_t hc97) (by decide) (by decide) kq) ?_
                              show own_Goes p e below s (own_F0 Z x0 x1 x2 x3 x4 x5 n0 h0) room_1.cells room_1.slots (T95.setTop (mkF m 331 #[.val (.int x0), .val (.long x1), .second, .val (.long x2), .second, .val (.long x3), .second, .val (.long x4), .second, .val (.long x5), .second, .val (.int ((x0 &&& (7 : Int32)) % (6 : Int32))), .val (.long (own_f0_1 x0 x1 x2 x3 x4 x5)), .second, .val (.long (own_f0_2 x0 x1 x2 x3 x4 x5)), .second, .val (.long (own_f0_3 x0 x1 x2 x3 x4 x5)), .second, .val (.long (own_f0_4 x0 x1 x2 x3 x4 x5)), .second, .val (.long (own_f0_5 x0 x1 x2 x3 x4 x5)), .second, .val (.ref b6), .val (.int (own_f0_6 x0 x1 x2 x3 x4 x5)), .val (.ref a12), .val (.ref a45), .val (.int (own_f0_17 x0 x1 x2 x3 x4 x5))] []))
                              refine own_Goes.step (fun tq kq => XT.iconstV X95.here hx rfl (0 : Int32) (hb hby at_331) (by decide) kq) ?_
                              show own_Goes p e below s (own_F0 Z x0 x1 x2 x3 x4 x5 n0 h0) room_1.cells room_1.slots (T95.setTop (mkF m 332 #[.val (.int x0), .val (.long x1), .second, .val (.long x2), .second, .val (.long x3), .second, .val (.long x4), .second, .val (.long x5), .second, .val (.int ((x0 &&& (7 : Int32)) % (6 : Int32))), .val (.long (own_f0_1 x0 x1 x2 x3 x4 x5)), .second, .val (.long (own_f0_2 x0 x1 x2 x3 x4 x5)), .second, .val (.long (own_f0_3 x0 x1 x2 x3 x4 x5)), .second, .val (.long (own_f0_4 x0 x1 x2 x3 x4 x5)), .second, .val (.long (own_f0_5 x0 x1 x2 x3 x4 x5)), .second, .val (.ref b6), .val (.int (own_f0_6 x0 x1 x2 x3 x4 x5)), .val (.ref a12), .val (.ref a45), .val (.int (own_f0_17 x0 x1 x2 x3 x4 x5))] [(.int (0 : Int32))]))
                              exact own_endN X95 hx Bd.notSynchronized (t := .boolean) Bd.returns (by simp) (hb hby at_332) ⟨(congrArg (fun z => some (Value.int z)) (show (0 : Int32) = own_f0 x0 x1 x2 x3 x4 x5 from by simp only [own_f0, if_neg hc8, if_neg hc10, if_neg hc11, if_neg hc90, if_neg hc92, if_neg hc94, if_pos hc97])), N87⟩ (by decide) (by decide)
                            · refine own_Goes.step (fun tq kq => XS.ifNo X95.here hx rfl (hb hby at_307) rfl (XT.i0_eq_f hc97) kq) ?_
                              show own_Goes p e below s (own_F0 Z x0 x1 x2 x3 x4 x5 n0 h0) room_1.cells room_1.slots (T95.setTop (mkF m 310 #[.val (.int x0), .val (.long x1), .second, .val (.long x2), .second, .val (.long x3), .second, .val (.long x4), .second, .val (.long x5), .second, .val (.int ((x0 &&& (7 : Int32)) % (6 : Int32))), .val (.long (own_f0_1 x0 x1 x2 x3 x4 x5)), .second, .val (.long (own_f0_2 x0 x1 x2 x3 x4 x5)), .second, .val (.long (own_f0_3 x0 x1 x2 x3 x4 x5)), .second, .val (.long (own_f0_4 x0 x1 x2 x3 x4 x5)), .second, .val (.long (own_f0_5 x0 x1 x2 x3 x4 x5)), .second, .val (.ref b6), .val (.int (own_f0_6 x0 x1 x2 x3 x4 x5)), .val (.ref a12), .val (.ref a45), .val (.int (own_f0_17 x0 x1 x2 x3 x4 x5))] []))
                              refine own_Goes.step (fun tq kq => XS.iload X95.here hx rfl (hb hby at_310) rfl kq) ?_
                              show own_Goes p e below s (own_F0 Z x0 x1 x2 x3 x4 x5 n0 h0) room_1.cells room_1.slots (T95.setTop (mkF m 312 #[.val (.int x0), .val (.long x1), .second, .val (.long x2), .second, .val (.long x3), .second, .val (.long x4), .second, .val (.long x5), .second, .val (.int ((x0 &&& (7 : Int32)) % (6 : Int32))), .val (.long (own_f0_1 x0 x1 x2 x3 x4 x5)), .second, .val (.long (own_f0_2 x0 x1 x2 x3 x4 x5)), .second, .val (.long (own_f0_3 x0 x1 x2 x3 x4 x5)), .second, .val (.long (own_f0_4 x0 x1 x2 x3 x4 x5)), .second, .val (.long (own_f0_5 x0 x1 x2 x3 x4 x5)), .second, .val (.ref b6), .val (.int (own_f0_6 x0 x1 x2 x3 x4 x5)), .val (.ref a12), .val (.ref a45), .val (.int (own_f0_17 x0 x1 x2 x3 x4 x5))] [(.int (own_f0_6 x0 x1 x2 x3 x4 x5))]))
                              by_cases hc98 : (own_f0_6 x0 x1 x2 x3 x4 x5) = (0 : Int32)
                              · refine own_Goes.step (fun tq kq => XS.ifYes X95.here hx rfl (pc0 := 312) (pc' := 327) rfl (hb hby at_312) rfl (XT.i0_eq_t hc98) (by decide) (by decide) kq) ?_
                                show own_Goes p e below s (own_F0 Z x0 x1 x2 x3 x4 x5 n0 h0) room_1.cells room_1.slots (T95.setTop (mkF m 327 #[.val (.int x0), .val (.long x1), .second, .val (.long x2), .second, .val (.long x3), .second, .val (.long x4), .second, .val (.long x5), .second, .val (.int ((x0 &&& (7 : Int32)) % (6 : Int32))), .val (.long (own_f0_1 x0 x1 x2 x3 x4 x5)), .second, .val (.long (own_f0_2 x0 x1 x2 x3 x4 x5)), .second, .val (.long (own_f0_3 x0 x1 x2 x3 x4 x5)), .second, .val (.long (own_f0_4 x0 x1 x2 x3 x4 x5)), .second, .val (.long (own_f0_5 x0 x1 x2 x3 x4 x5)), .second, .val (.ref b6), .val (.int (own_f0_6 x0 x1 x2 x3 x4 x5)), .val (.ref a12), .val (.ref a45), .val (.int (own_f0_17 x0 x1 x2 x3 x4 x5))] []))
                                refine own_Goes.step (fun tq kq => XT.iconstV X95.here hx rfl (1 : Int32) (hb hby at_327) (by decide) kq) ?_
                                show own_Goes p e below s (own_F0 Z x0 x1 x2 x3 x4 x5 n0 h0) room_1.cells room_1.slots (T95.setTop (mkF m 328 #[.val (.int x0), .val (.long x1), .second, .val (.long x2), .second, .val (.long x3), .second, .val (.long x4), .second, .val (.long x5), .second, .val (.int ((x0 &&& (7 : Int32)) % (6 : Int32))), .val (.long (own_f0_1 x0 x1 x2 x3 x4 x5)), .second, .val (.long (own_f0_2 x0 x1 x2 x3 x4 x5)), .second, .val (.long (own_f0_3 x0 x1 x2 x3 x4 x5)), .second, .val (.long (own_f0_4 x0 x1 x2 x3 x4 x5)), .second, .val (.long (own_f0_5 x0 x1 x2 x3 x4 x5)), .second, .val (.ref b6), .val (.int (own_f0_6 x0 x1 x2 x3 x4 x5)), .val (.ref a12), .val (.ref a45), .val (.int (own_f0_17 x0 x1 x2 x3 x4 x5))] [(.int (1 : Int32))]))
                                refine own_Goes.step (fun tq kq => XS.goto X95.here hx rfl (pc0 := 328) (pc' := 332) rfl (hb hby at_328) (by decide) (by decide) kq) ?_
                                show own_Goes p e below s (own_F0 Z x0 x1 x2 x3 x4 x5 n0 h0) room_1.cells room_1.slots (T95.setTop (mkF m 332 #[.val (.int x0), .val (.long x1), .second, .val (.long x2), .second, .val (.long x3), .second, .val (.long x4), .second, .val (.long x5), .second, .val (.int ((x0 &&& (7 : Int32)) % (6 : Int32))), .val (.long (own_f0_1 x0 x1 x2 x3 x4 x5)), .second, .val (.long (own_f0_2 x0 x1 x2 x3 x4 x5)), .second, .val (.long (own_f0_3 x0 x1 x2 x3 x4 x5)), .second, .val (.long (own_f0_4 x0 x1 x2 x3 x4 x5)), .second, .val (.long (own_f0_5 x0 x1 x2 x3 x4 x5)), .second, .val (.ref b6), .val (.int (own_f0_6 x0 x1 x2 x3 x4 x5)), .val (.ref a12), .val (.ref a45), .val (.int (own_f0_17 x0 x1 x2 x3 x4 x5))] [(.int (1 : Int32))]))
                                exact own_endN X95 hx Bd.notSynchronized (t := .boolean) Bd.returns (by simp) (hb hby at_332) ⟨(congrArg (fun z => some (Value.int z)) (show (1 : Int32) = own_f0 x0 x1 x2 x3 x4 x5 from by simp only [own_f0, if_neg hc8, if_neg hc10, if_neg hc11, if_neg hc90, if_neg hc92, if_neg hc94, if_neg hc97, if_pos hc98])), N87⟩ (by decide) (by decide)
                              · refine own_Goes.step (fun tq kq => XS.ifNo X95.here hx rfl (hb hby at_312) rfl (XT.i0_eq_f hc98) kq) ?_
                                show own_Goes p e below s (own_F0 Z x0 x1 x2 x3 x4 x5 n0 h0) room_1.cells room_1.slots (T95.setTop (mkF m 315 #[.val (.int x0), .val (.long x1), .second, .val (.long x2), .second, .val (.long x3), .second, .val (.long x4), .second, .val (.long x5), .second, .val (.int ((x0 &&& (7 : Int32)) % (6 : Int32))), .val (.long (own_f0_1 x0 x1 x2 x3 x4 x5)), .second, .val (.long (own_f0_2 x0 x1 x2 x3 x4 x5)), .second, .val (.long (own_f0_3 x0 x1 x2 x3 x4 x5)), .second, .val (.long (own_f0_4 x0 x1 x2 x3 x4 x5)), .second, .val (.long (own_f0_5 x0 x1 x2 x3 x4 x5)), .second, .val (.ref b6), .val (.int (own_f0_6 x0 x1 x2 x3 x4 x5)), .val (.ref a12), .val (.ref a45), .val (.int (own_f0_17 x0 x1 x2 x3 x4 x5))] []))
                                refine own_Goes.step (fun tq kq => XS.aload X95.here hx rfl (hb hby at_315) rfl rfl kq) ?_
                                show own_Goes p e below s (own_F0 Z x0 x1 x2 x3 x4 x5 n0 h0) room_1.cells room_1.slots (T95.setTop (mkF m 317 #[.val (.int x0), .val (.long x1), .second, .val (.long x2), .second, .val (.long x3), .second, .val (.long x4), .second, .val (.long x5), .second, .val (.int ((x0 &&& (7 : Int32)) % (6 : Int32))), .val (.long (own_f0_1 x0 x1 x2 x3 x4 x5)), .second, .val (.long (own_f0_2 x0 x1 x2 x3 x4 x5)), .second, .val (.long (own_f0_3 x0 x1 x2 x3 x4 x5)), .second, .val (.long (own_f0_4 x0 x1 x2 x3 x4 x5)), .second, .val (.long (own_f0_5 x0 x1 x2 x3 x4 x5)), .second, .val (.ref b6), .val (.int (own_f0_6 x0 x1 x2 x3 x4 x5)), .val (.ref a12), .val (.ref a45), .val (.int (own_f0_17 x0 x1 x2 x3 x4 x5))] [(.ref a12)]))
                                refine own_Goes.step (fun tq kq => XS.aload X95.here hx rfl (hb hby at_317) rfl rfl kq) ?_
                                show own_Goes p e below s (own_F0 Z x0 x1 x2 x3 x4 x5 n0 h0) room_1.cells room_1.slots (T95.setTop (mkF m 319 #[.val (.int x0), .val (.long x1), .second, .val (.long x2), .second, .val (.long x3), .second, .val (.long x4), .second, .val (.long x5), .second, .val (.int ((x0 &&& (7 : Int32)) % (6 : Int32))), .val (.long (own_f0_1 x0 x1 x2 x3 x4 x5)), .second, .val (.long (own_f0_2 x0 x1 x2 x3 x4 x5)), .second, .val (.long (own_f0_3 x0 x1 x2 x3 x4 x5)), .second, .val (.long (own_f0_4 x0 x1 x2 x3 x4 x5)), .second, .val (.long (own_f0_5 x0 x1 x2 x3 x4 x5)), .second, .val (.ref b6), .val (.int (own_f0_6 x0 x1 x2 x3 x4 x5)), .val (.ref a12), .val (.ref a45), .val (.int (own_f0_17 x0 x1 x2 x3 x4 x5))] [(.ref a45), (.ref a12)]))
                                refine own_Goes.step (fun tq kq => XS.iload X95.here hx rfl (hb hby at_319) rfl kq) ?_
                                show own_Goes p e below s (own_F0 Z x0 x1 x2 x3 x4 x5 n0 h0) room_1.cells room_1.slots (T95.setTop (mkF m 321 #[.val (.int x0), .val (.long x1), .second, .val (.long x2), .second, .val (.long x3), .second, .val (.long x4), .second, .val (.long x5), .second, .val (.int ((x0 &&& (7 : Int32)) % (6 : Int32))), .val (.long (own_f0_1 x0 x1 x2 x3 x4 x5)), .second, .val (.long (own_f0_2 x0 x1 x2 x3 x4 x5)), .second, .val (.long (own_f0_3 x0 x1 x2 x3 x4 x5)), .second, .val (.long (own_f0_4 x0 x1 x2 x3 x4 x5)), .second, .val (.long (own_f0_5 x0 x1 x2 x3 x4 x5)), .second, .val (.ref b6), .val (.int (own_f0_6 x0 x1 x2 x3 x4 x5)), .val (.ref a12), .val (.ref a45), .val (.int (own_f0_17 x0 x1 x2 x3 x4 x5))] [(.int (own_f0_6 x0 x1 x2 x3 x4 x5)), (.ref a45), (.ref a12)]))
                                obtain ⟨w99, T99, L99, q99, Y99, st99⟩ := own_stat X95 hx hZ e95 hown (hw _ (List.mem_of_getElem? (i := 15) rfl)) (hw _ (List.mem_of_getElem? (i := 16) rfl)) (hw _ (List.mem_of_getElem? (i := 2) rfl)) (hw _ (List.mem_of_getElem? (i := 17) rfl)) (by decide) (own_m4 l Z a0 hw [] a12 a45 (own_f0_6 x0 x1 x2 x3 x4 x5) (own_f0_11 x0 x1 x2 x3 x4 x5) (own_f0_16 x0 x1 x2 x3 x4 x5) ((own_f0_6 x0 x1 x2 x3 x4 x5).toInt.toNat - 1) n0 h82 f84 f85 (own_fj (by assumption) (by assumption) (by assumption)).1 (own_fj (by assumption) (by assumption) (by assumption)).2) (by decide) (W := 0) (by decide) (by decide) (by decide) (g := (mkF m 321 #[.val (.int x0), .val (.long x1), .second, .val (.long x2), .second, .val (.long x3), .second, .val (.long x4), .second, .val (.long x5), .second, .val (.int ((x0 &&& (7 : Int32)) % (6 : Int32))), .val (.long (own_f0_1 x0 x1 x2 x3 x4 x5)), .second, .val (.long (own_f0_2 x0 x1 x2 x3 x4 x5)), .second, .val (.long (own_f0_3 x0 x1 x2 x3 x4 x5)), .second, .val (.long (own_f0_4 x0 x1 x2 x3 x4 x5)), .second, .val (.long (own_f0_5 x0 x1 x2 x3 x4 x5)), .second, .val (.ref b6), .val (.int (own_f0_6 x0 x1 x2 x3 x4 x5)), .val (.ref a12), .val (.ref a45), .val (.int (own_f0_17 x0 x1 x2 x3 x4 x5))] [(.int (own_f0_6 x0 x1 x2 x3 x4 x5)), (.ref a45), (.ref a12)])) rfl (by rw [hml]; rfl) (argsL := [(.ref a12), (.ref a45), (.int (own_f0_6 x0 x1 x2 x3 x4 x5))]) (rest := []) (lenOf pd_4 rfl) rfl (by show 2 * 0 + _ ≤ _; exact Nat.le_of_eq rfl) (hb hby at_321)
                                obtain ⟨e99, X99⟩ := own_clean q99 Y99 rfl rfl
                                obtain ⟨rfl, -, -⟩ := q99
                                refine own_Goes.step st99 ?_
                                show own_Goes p e below s (own_F0 Z x0 x1 x2 x3 x4 x5 n0 h0) room_1.cells room_1.slots (T99.setTop (mkF m 324 #[.val (.int x0), .val (.long x1), .second, .val (.long x2), .second, .val (.long x3), .second, .val (.long x4), .second, .val (.long x5), .second, .val (.int ((x0 &&& (7 : Int32)) % (6 : Int32))), .val (.long (own_f0_1 x0 x1 x2 x3 x4 x5)), .second, .val (.long (own_f0_2 x0 x1 x2 x3 x4 x5)), .second, .val (.long (own_f0_3 x0 x1 x2 x3 x4 x5)), .second, .val (.long (own_f0_4 x0 x1 x2 x3 x4 x5)), .second, .val (.long (own_f0_5 x0 x1 x2 x3 x4 x5)), .second, .val (.ref b6), .val (.int (own_f0_6 x0 x1 x2 x3 x4 x5)), .val (.ref a12), .val (.ref a45), .val (.int (own_f0_17 x0 x1 x2 x3 x4 x5))] [(.int (own_f4 (own_f0_11 x0 x1 x2 x3 x4 x5) (own_f0_16 x0 x1 x2 x3 x4 x5) ((own_f0_6 x0 x1 x2 x3 x4 x5).toInt.toNat - 1)))]))
                                by_cases hc100 : (own_f4 (own_f0_11 x0 x1 x2 x3 x4 x5) (own_f0_16 x0 x1 x2 x3 x4 x5) ((own_f0_6 x0 x1 x2 x3 x4 x5).toInt.toNat - 1)) = (0 : Int32)
                                · refine own_Goes.step (fun tq kq => XS.ifNo X99.here hx rfl (hb hby at_324) rfl (XT.i0_ne_f hc100) kq) ?_
                                  show own_Goes p e below s (own_F0 Z x0 x1 x2 x3 x4 x5 n0 h0) room_1.cells room_1.slots (T99.setTop (mkF m 327 #[.val (.int x0), .val (.long x1), .second, .val (.long x2), .second, .val (.long x3), .second, .val (.long x4), .second, .val (.long x5), .second, .val (.int ((x0 &&& (7 : Int32)) % (6 : Int32))), .val (.long (own_f0_1 x0 x1 x2 x3 x4 x5)), .second, .val (.long (own_f0_2 x0 x1 x2 x3 x4 x5)), .second, .val (.long (own_f0_3 x0 x1 x2 x3 x4 x5)), .second, .val (.long (own_f0_4 x0 x1 x2 x3 x4 x5)), .second, .val (.long (own_f0_5 x0 x1 x2 x3 x4 x5)), .second, .val (.ref b6), .val (.int (own_f0_6 x0 x1 x2 x3 x4 x5)), .val (.ref a12), .val (.ref a45), .val (.int (own_f0_17 x0 x1 x2 x3 x4 x5))] []))
                                  refine own_Goes.step (fun tq kq => XT.iconstV X99.here hx rfl (1 : Int32) (hb hby at_327) (by decide) kq) ?_
                                  show own_Goes p e below s (own_F0 Z x0 x1 x2 x3 x4 x5 n0 h0) room_1.cells room_1.slots (T99.setTop (mkF m 328 #[.val (.int x0), .val (.long x1), .second, .val (.long x2), .second, .val (.long x3), .second, .val (.long x4), .second, .val (.long x5), .second, .val (.int ((x0 &&& (7 : Int32)) % (6 : Int32))), .val (.long (own_f0_1 x0 x1 x2 x3 x4 x5)), .second, .val (.long (own_f0_2 x0 x1 x2 x3 x4 x5)), .second, .val (.long (own_f0_3 x0 x1 x2 x3 x4 x5)), .second, .val (.long (own_f0_4 x0 x1 x2 x3 x4 x5)), .second, .val (.long (own_f0_5 x0 x1 x2 x3 x4 x5)), .second, .val (.ref b6), .val (.int (own_f0_6 x0 x1 x2 x3 x4 x5)), .val (.ref a12), .val (.ref a45), .val (.int (own_f0_17 x0 x1 x2 x3 x4 x5))] [(.int (1 : Int32))]))
                                  refine own_Goes.step (fun tq kq => XS.goto X99.here hx rfl (pc0 := 328) (pc' := 332) rfl (hb hby at_328) (by decide) (by decide) kq) ?_
                                  show own_Goes p e below s (own_F0 Z x0 x1 x2 x3 x4 x5 n0 h0) room_1.cells room_1.slots (T99.setTop (mkF m 332 #[.val (.int x0), .val (.long x1), .second, .val (.long x2), .second, .val (.long x3), .second, .val (.long x4), .second, .val (.long x5), .second, .val (.int ((x0 &&& (7 : Int32)) % (6 : Int32))), .val (.long (own_f0_1 x0 x1 x2 x3 x4 x5)), .second, .val (.long (own_f0_2 x0 x1 x2 x3 x4 x5)), .second, .val (.long (own_f0_3 x0 x1 x2 x3 x4 x5)), .second, .val (.long (own_f0_4 x0 x1 x2 x3 x4 x5)), .second, .val (.long (own_f0_5 x0 x1 x2 x3 x4 x5)), .second, .val (.ref b6), .val (.int (own_f0_6 x0 x1 x2 x3 x4 x5)), .val (.ref a12), .val (.ref a45), .val (.int (own_f0_17 x0 x1 x2 x3 x4 x5))] [(.int (1 : Int32))]))
                                  exact own_endN X99 hx Bd.notSynchronized (t := .boolean) Bd.returns (by simp) (hb hby at_332) ⟨(congrArg (fun z => some (Value.int z)) (show (1 : Int32) = own_f0 x0 x1 x2 x3 x4 x5 from by simp only [own_f0, if_neg hc8, if_neg hc10, if_neg hc11, if_neg hc90, if_neg hc92, if_neg hc94, if_neg hc97, if_neg hc98, if_pos hc100])), N87⟩ (by decide) (by decide)
                                · refine own_Goes.step (fun tq kq => XS.ifYes X99.here hx rfl (pc0 := 324) (pc' := 331) rfl (hb hby at_324) rfl (XT.i0_ne_t hc100) (by decide) (by decide) kq) ?_
                                  show own_Goes p e below s (own_F0 Z x0 x1 x2 x3 x4 x5 n0 h0) room_1.cells room_1.slots (T99.setTop (mkF m 331 #[.val (.int x0), .val (.long x1), .second, .val (.long x2), .second, .val (.long x3), .second, .val (.long x4), .second, .val (.long x5), .second, .val (.int ((x0 &&& (7 : Int32)) % (6 : Int32))), .val (.long (own_f0_1 x0 x1 x2 x3 x4 x5)), .second, .val (.long (own_f0_2 x0 x1 x2 x3 x4 x5)), .second, .val (.long (own_f0_3 x0 x1 x2 x3 x4 x5)), .second, .val (.long (own_f0_4 x0 x1 x2 x3 x4 x5)), .second, .val (.long (own_f0_5 x0 x1 x2 x3 x4 x5)), .second, .val (.ref b6), .val (.int (own_f0_6 x0 x1 x2 x3 x4 x5)), .val (.ref a12), .val (.ref a45), .val (.int (own_f0_17 x0 x1 x2 x3 x4 x5))] []))
                                  refine own_Goes.step (fun tq kq => XT.iconstV X99.here hx rfl (0 : Int32) (hb hby at_331) (by decide) kq) ?_
                                  show own_Goes p e below s (own_F0 Z x0 x1 x2 x3 x4 x5 n0 h0) room_1.cells room_1.slots (T99.setTop (mkF m 332 #[.val (.int x0), .val (.long x1), .second, .val (.long x2), .second, .val (.long x3), .second, .val (.long x4), .second, .val (.long x5), .second, .val (.int ((x0 &&& (7 : Int32)) % (6 : Int32))), .val (.long (own_f0_1 x0 x1 x2 x3 x4 x5)), .second, .val (.long (own_f0_2 x0 x1 x2 x3 x4 x5)), .second, .val (.long (own_f0_3 x0 x1 x2 x3 x4 x5)), .second, .val (.long (own_f0_4 x0 x1 x2 x3 x4 x5)), .second, .val (.long (own_f0_5 x0 x1 x2 x3 x4 x5)), .second, .val (.ref b6), .val (.int (own_f0_6 x0 x1 x2 x3 x4 x5)), .val (.ref a12), .val (.ref a45), .val (.int (own_f0_17 x0 x1 x2 x3 x4 x5))] [(.int (0 : Int32))]))
                                  exact own_endN X99 hx Bd.notSynchronized (t := .boolean) Bd.returns (by simp) (hb hby at_332) ⟨(congrArg (fun z => some (Value.int z)) (show (0 : Int32) = own_f0 x0 x1 x2 x3 x4 x5 from by simp only [own_f0, if_neg hc8, if_neg hc10, if_neg hc11, if_neg hc90, if_neg hc92, if_neg hc94, if_neg hc97, if_neg hc98, if_neg hc100])), N87⟩ (by decide) (by decide)
                          by_cases hc96 : (own_f3 (own_f0_6 x0 x1 x2 x3 x4 x5) ((x0 &&& (7 : Int32)) % (6 : Int32)) (4 : Int32) (own_f0_11 x0 x1 x2 x3 x4 x5) (own_f0_16 x0 x1 x2 x3 x4 x5) 3) = (0 : Int32)
                          · refine own_Goes.step (fun tq kq => XS.ifYes X95.here hx rfl (pc0 := 295) (pc' := 302) rfl (hb hby at_295) rfl (XT.i0_eq_t hc96) (by decide) (by decide) kq) ?_
                            show own_Goes p e below s (own_F0 Z x0 x1 x2 x3 x4 x5 n0 h0) room_1.cells room_1.slots (T95.setTop (mkF m 302 #[.val (.int x0), .val (.long x1), .second, .val (.long x2), .second, .val (.long x3), .second, .val (.long x4), .second, .val (.long x5), .second, .val (.int ((x0 &&& (7 : Int32)) % (6 : Int32))), .val (.long (own_f0_1 x0 x1 x2 x3 x4 x5)), .second, .val (.long (own_f0_2 x0 x1 x2 x3 x4 x5)), .second, .val (.long (own_f0_3 x0 x1 x2 x3 x4 x5)), .second, .val (.long (own_f0_4 x0 x1 x2 x3 x4 x5)), .second, .val (.long (own_f0_5 x0 x1 x2 x3 x4 x5)), .second, .val (.ref b6), .val (.int (own_f0_6 x0 x1 x2 x3 x4 x5)), .val (.ref a12), .val (.ref a45), .unset] []))
                            refine own_Goes.step (fun tq kq => XT.iconstV X95.here hx rfl (0 : Int32) (hb hby at_302) (by decide) kq) ?_
                            show own_Goes p e below s (own_F0 Z x0 x1 x2 x3 x4 x5 n0 h0) room_1.cells room_1.slots (T95.setTop (mkF m 303 #[.val (.int x0), .val (.long x1), .second, .val (.long x2), .second, .val (.long x3), .second, .val (.long x4), .second, .val (.long x5), .second, .val (.int ((x0 &&& (7 : Int32)) % (6 : Int32))), .val (.long (own_f0_1 x0 x1 x2 x3 x4 x5)), .second, .val (.long (own_f0_2 x0 x1 x2 x3 x4 x5)), .second, .val (.long (own_f0_3 x0 x1 x2 x3 x4 x5)), .second, .val (.long (own_f0_4 x0 x1 x2 x3 x4 x5)), .second, .val (.long (own_f0_5 x0 x1 x2 x3 x4 x5)), .second, .val (.ref b6), .val (.int (own_f0_6 x0 x1 x2 x3 x4 x5)), .val (.ref a12), .val (.ref a45), .unset] [(.int (0 : Int32))]))
                            rw [show (own_f0_17 x0 x1 x2 x3 x4 x5) = (0 : Int32) from by simp only [own_f0_17, if_pos hc96]] at J101
                            exact J101
                          · refine own_Goes.step (fun tq kq => XS.ifNo X95.here hx rfl (hb hby at_295) rfl (XT.i0_eq_f hc96) kq) ?_
                            show own_Goes p e below s (own_F0 Z x0 x1 x2 x3 x4 x5 n0 h0) room_1.cells room_1.slots (T95.setTop (mkF m 298 #[.val (.int x0), .val (.long x1), .second, .val (.long x2), .second, .val (.long x3), .second, .val (.long x4), .second, .val (.long x5), .second, .val (.int ((x0 &&& (7 : Int32)) % (6 : Int32))), .val (.long (own_f0_1 x0 x1 x2 x3 x4 x5)), .second, .val (.long (own_f0_2 x0 x1 x2 x3 x4 x5)), .second, .val (.long (own_f0_3 x0 x1 x2 x3 x4 x5)), .second, .val (.long (own_f0_4 x0 x1 x2 x3 x4 x5)), .second, .val (.long (own_f0_5 x0 x1 x2 x3 x4 x5)), .second, .val (.ref b6), .val (.int (own_f0_6 x0 x1 x2 x3 x4 x5)), .val (.ref a12), .val (.ref a45), .unset] []))
                            refine own_Goes.step (fun tq kq => XT.iconstV X95.here hx rfl (1 : Int32) (hb hby at_298) (by decide) kq) ?_
                            show own_Goes p e below s (own_F0 Z x0 x1 x2 x3 x4 x5 n0 h0) room_1.cells room_1.slots (T95.setTop (mkF m 299 #[.val (.int x0), .val (.long x1), .second, .val (.long x2), .second, .val (.long x3), .second, .val (.long x4), .second, .val (.long x5), .second, .val (.int ((x0 &&& (7 : Int32)) % (6 : Int32))), .val (.long (own_f0_1 x0 x1 x2 x3 x4 x5)), .second, .val (.long (own_f0_2 x0 x1 x2 x3 x4 x5)), .second, .val (.long (own_f0_3 x0 x1 x2 x3 x4 x5)), .second, .val (.long (own_f0_4 x0 x1 x2 x3 x4 x5)), .second, .val (.long (own_f0_5 x0 x1 x2 x3 x4 x5)), .second, .val (.ref b6), .val (.int (own_f0_6 x0 x1 x2 x3 x4 x5)), .val (.ref a12), .val (.ref a45), .unset] [(.int (1 : Int32))]))
                            refine own_Goes.step (fun tq kq => XS.goto X95.here hx rfl (pc0 := 299) (pc' := 303) rfl (hb hby at_299) (by decide) (by decide) kq) ?_
                            show own_Goes p e below s (own_F0 Z x0 x1 x2 x3 x4 x5 n0 h0) room_1.cells room_1.slots (T95.setTop (mkF m 303 #[.val (.int x0), .val (.long x1), .second, .val (.long x2), .second, .val (.long x3), .second, .val (.long x4), .second, .val (.long x5), .second, .val (.int ((x0 &&& (7 : Int32)) % (6 : Int32))), .val (.long (own_f0_1 x0 x1 x2 x3 x4 x5)), .second, .val (.long (own_f0_2 x0 x1 x2 x3 x4 x5)), .second, .val (.long (own_f0_3 x0 x1 x2 x3 x4 x5)), .second, .val (.long (own_f0_4 x0 x1 x2 x3 x4 x5)), .second, .val (.long (own_f0_5 x0 x1 x2 x3 x4 x5)), .second, .val (.ref b6), .val (.int (own_f0_6 x0 x1 x2 x3 x4 x5)), .val (.ref a12), .val (.ref a45), .unset] [(.int (1 : Int32))]))
                            rw [show (own_f0_17 x0 x1 x2 x3 x4 x5) = (1 : Int32) from by simp only [own_f0_17, if_neg hc96]] at J101
                            exact J101
            by_cases hc5 : (4 : Int32) < ((x0 &&& (7 : Int32)) % (6 : Int32))
            · refine own_Goes.step (fun tq kq => XS.icmpNo X0.here hx rfl (hb hby at_81) rfl (XT.ii_le_f hc5) kq) ?_
              show own_Goes p e below s (own_F0 Z x0 x1 x2 x3 x4 x5 n0 h0) room_1.cells room_1.slots (s₁.setTop (mkF m 84 #[.val (.int x0), .val (.long x1), .second, .val (.long x2), .second, .val (.long x3), .second, .val (.long x4), .second, .val (.long x5), .second, .val (.int ((x0 &&& (7 : Int32)) % (6 : Int32))), .val (.long (own_f0_1 x0 x1 x2 x3 x4 x5)), .second, .val (.long (own_f0_2 x0 x1 x2 x3 x4 x5)), .second, .val (.long (own_f0_3 x0 x1 x2 x3 x4 x5)), .second, .val (.long (own_f0_4 x0 x1 x2 x3 x4 x5)), .second, .unset, .unset, .unset, .unset, .unset, .unset, .unset] []))
              refine own_Goes.step (fun tq kq => XT.lload X0.here hx rfl (hb hby at_84) rfl kq) ?_
              show own_Goes p e below s (own_F0 Z x0 x1 x2 x3 x4 x5 n0 h0) room_1.cells room_1.slots (s₁.setTop (mkF m 86 #[.val (.int x0), .val (.long x1), .second, .val (.long x2), .second, .val (.long x3), .second, .val (.long x4), .second, .val (.long x5), .second, .val (.int ((x0 &&& (7 : Int32)) % (6 : Int32))), .val (.long (own_f0_1 x0 x1 x2 x3 x4 x5)), .second, .val (.long (own_f0_2 x0 x1 x2 x3 x4 x5)), .second, .val (.long (own_f0_3 x0 x1 x2 x3 x4 x5)), .second, .val (.long (own_f0_4 x0 x1 x2 x3 x4 x5)), .second, .unset, .unset, .unset, .unset, .unset, .unset, .unset] [(.long x5)]))
              refine own_Goes.step (fun tq kq => X0.ldc2J hx hown (mvT hZ (hw _ (List.mem_of_getElem? (i := 9) rfl))) rfl (hb hby at_86) kq) ?_
              show own_Goes p e below s (own_F0 Z x0 x1 x2 x3 x4 x5 n0 h0) room_1.cells room_1.slots (s₁.setTop (mkF m 89 #[.val (.int x0), .val (.long x1), .second, .val (.long x2), .second, .val (.long x3), .second, .val (.long x4), .second, .val (.long x5), .second, .val (.int ((x0 &&& (7 : Int32)) % (6 : Int32))), .val (.long (own_f0_1 x0 x1 x2 x3 x4 x5)), .second, .val (.long (own_f0_2 x0 x1 x2 x3 x4 x5)), .second, .val (.long (own_f0_3 x0 x1 x2 x3 x4 x5)), .second, .val (.long (own_f0_4 x0 x1 x2 x3 x4 x5)), .second, .unset, .unset, .unset, .unset, .unset, .unset, .unset] [(.long (8589934591 : Int64)), (.long x5)]))
              refine own_Goes.step (fun tq kq => XT.land X0.here hx rfl (hb hby at_89) rfl kq) ?_
              show own_Goes p e below s (own_F0 Z x0 x1 x2 x3 x4 x5 n0 h0) room_1.cells room_1.slots (s₁.setTop (mkF m 90 #[.val (.int x0), .val (.long x1), .second, .val (.long x2), .second, .val (.long x3), .second, .val (.long x4), .second, .val (.long x5), .second, .val (.int ((x0 &&& (7 : Int32)) % (6 : Int32))), .val (.long (own_f0_1 x0 x1 x2 x3 x4 x5)), .second, .val (.long (own_f0_2 x0 x1 x2 x3 x4 x5)), .second, .val (.long (own_f0_3 x0 x1 x2 x3 x4 x5)), .second, .val (.long (own_f0_4 x0 x1 x2 x3 x4 x5)), .second, .unset, .unset, .unset, .unset, .unset, .unset, .unset] [(.long (x5 &&& (8589934591 : Int64)))]))
              refine own_Goes.step (fun tq kq => XS.goto X0.here hx rfl (pc0 := 90) (pc' := 94) rfl (hb hby at_90) (by decide) (by decide) kq) ?_
              show own_Goes p e below s (own_F0 Z x0 x1 x2 x3 x4 x5 n0 h0) room_1.cells room_1.slots (s₁.setTop (mkF m 94 #[.val (.int x0), .val (.long x1), .second, .val (.long x2), .second, .val (.long x3), .second, .val (.long x4), .second, .val (.long x5), .second, .val (.int ((x0 &&& (7 : Int32)) % (6 : Int32))), .val (.long (own_f0_1 x0 x1 x2 x3 x4 x5)), .second, .val (.long (own_f0_2 x0 x1 x2 x3 x4 x5)), .second, .val (.long (own_f0_3 x0 x1 x2 x3 x4 x5)), .second, .val (.long (own_f0_4 x0 x1 x2 x3 x4 x5)), .second, .unset, .unset, .unset, .unset, .unset, .unset, .unset] [(.long (x5 &&& (8589934591 : Int64)))]))
              rw [show (own_f0_5 x0 x1 x2 x3 x4 x5) = (x5 &&& (8589934591 : Int64)) from by simp only [own_f0_5, if_pos hc5]] at J102
              exact J102
            · refine own_Goes.step (fun tq kq => XS.icmpYes X0.here hx rfl (pc0 := 81) (pc' := 93) rfl (hb hby at_81) rfl (XT.ii_le_t hc5) (by decide) (by decide) kq) ?_
              show own_Goes p e below s (own_F0 Z x0 x1 x2 x3 x4 x5 n0 h0) room_1.cells room_1.slots (s₁.setTop (mkF m 93 #[.val (.int x0), .val (.long x1), .second, .val (.long x2), .second, .val (.long x3), .second, .val (.long x4), .second, .val (.long x5), .second, .val (.int ((x0 &&& (7 : Int32)) % (6 : Int32))), .val (.long (own_f0_1 x0 x1 x2 x3 x4 x5)), .second, .val (.long (own_f0_2 x0 x1 x2 x3 x4 x5)), .second, .val (.long (own_f0_3 x0 x1 x2 x3 x4 x5)), .second, .val (.long (own_f0_4 x0 x1 x2 x3 x4 x5)), .second, .unset, .unset, .unset, .unset, .unset, .unset, .unset] []))
              refine own_Goes.step (fun tq kq => XT.lconstV X0.here hx rfl (0 : Int64) (hb hby at_93) (by decide) kq) ?_
              show own_Goes p e below s (own_F0 Z x0 x1 x2 x3 x4 x5 n0 h0) room_1.cells room_1.slots (s₁.setTop (mkF m 94 #[.val (.int x0), .val (.long x1), .second, .val (.long x2), .second, .val (.long x3), .second, .val (.long x4), .second, .val (.long x5), .second, .val (.int ((x0 &&& (7 : Int32)) % (6 : Int32))), .val (.long (own_f0_1 x0 x1 x2 x3 x4 x5)), .second, .val (.long (own_f0_2 x0 x1 x2 x3 x4 x5)), .second, .val (.long (own_f0_3 x0 x1 x2 x3 x4 x5)), .second, .val (.long (own_f0_4 x0 x1 x2 x3 x4 x5)), .second, .unset, .unset, .unset, .unset, .unset, .unset, .unset] [(.long (0 : Int64))]))
              rw [show (own_f0_5 x0 x1 x2 x3 x4 x5) = (0 : Int64) from by simp only [own_f0_5, if_neg hc5]] at J102
              exact J102
          by_cases hc4 : (3 : Int32) < ((x0 &&& (7 : Int32)) % (6 : Int32))
          · refine own_Goes.step (fun tq kq => XS.icmpNo X0.here hx rfl (hb hby at_63) rfl (XT.ii_le_f hc4) kq) ?_
            show own_Goes p e below s (own_F0 Z x0 x1 x2 x3 x4 x5 n0 h0) room_1.cells room_1.slots (s₁.setTop (mkF m 66 #[.val (.int x0), .val (.long x1), .second, .val (.long x2), .second, .val (.long x3), .second, .val (.long x4), .second, .val (.long x5), .second, .val (.int ((x0 &&& (7 : Int32)) % (6 : Int32))), .val (.long (own_f0_1 x0 x1 x2 x3 x4 x5)), .second, .val (.long (own_f0_2 x0 x1 x2 x3 x4 x5)), .second, .val (.long (own_f0_3 x0 x1 x2 x3 x4 x5)), .second, .unset, .unset, .unset, .unset, .unset, .unset, .unset, .unset, .unset] []))
            refine own_Goes.step (fun tq kq => XT.lload X0.here hx rfl (hb hby at_66) rfl kq) ?_
            show own_Goes p e below s (own_F0 Z x0 x1 x2 x3 x4 x5 n0 h0) room_1.cells room_1.slots (s₁.setTop (mkF m 68 #[.val (.int x0), .val (.long x1), .second, .val (.long x2), .second, .val (.long x3), .second, .val (.long x4), .second, .val (.long x5), .second, .val (.int ((x0 &&& (7 : Int32)) % (6 : Int32))), .val (.long (own_f0_1 x0 x1 x2 x3 x4 x5)), .second, .val (.long (own_f0_2 x0 x1 x2 x3 x4 x5)), .second, .val (.long (own_f0_3 x0 x1 x2 x3 x4 x5)), .second, .unset, .unset, .unset, .unset, .unset, .unset, .unset, .unset, .unset] [(.long x4)]))
            refine own_Goes.step (fun tq kq => X0.ldc2J hx hown (mvT hZ (hw _ (List.mem_of_getElem? (i := 9) rfl))) rfl (hb hby at_68) kq) ?_
            show own_Goes p e below s (own_F0 Z x0 x1 x2 x3 x4 x5 n0 h0) room_1.cells room_1.slots (s₁.setTop (mkF m 71 #[.val (.int x0), .val (.long x1), .second, .val (.long x2), .second, .val (.long x3), .second, .val (.long x4), .second, .val (.long x5), .second, .val (.int ((x0 &&& (7 : Int32)) % (6 : Int32))), .val (.long (own_f0_1 x0 x1 x2 x3 x4 x5)), .second, .val (.long (own_f0_2 x0 x1 x2 x3 x4 x5)), .second, .val (.long (own_f0_3 x0 x1 x2 x3 x4 x5)), .second, .unset, .unset, .unset, .unset, .unset, .unset, .unset, .unset, .unset] [(.long (8589934591 : Int64)), (.long x4)]))
            refine own_Goes.step (fun tq kq => XT.land X0.here hx rfl (hb hby at_71) rfl kq) ?_
            show own_Goes p e below s (own_F0 Z x0 x1 x2 x3 x4 x5 n0 h0) room_1.cells room_1.slots (s₁.setTop (mkF m 72 #[.val (.int x0), .val (.long x1), .second, .val (.long x2), .second, .val (.long x3), .second, .val (.long x4), .second, .val (.long x5), .second, .val (.int ((x0 &&& (7 : Int32)) % (6 : Int32))), .val (.long (own_f0_1 x0 x1 x2 x3 x4 x5)), .second, .val (.long (own_f0_2 x0 x1 x2 x3 x4 x5)), .second, .val (.long (own_f0_3 x0 x1 x2 x3 x4 x5)), .second, .unset, .unset, .unset, .unset, .unset, .unset, .unset, .unset, .unset] [(.long (x4 &&& (8589934591 : Int64)))]))
            refine own_Goes.step (fun tq kq => XS.goto X0.here hx rfl (pc0 := 72) (pc' := 76) rfl (hb hby at_72) (by decide) (by decide) kq) ?_
            show own_Goes p e below s (own_F0 Z x0 x1 x2 x3 x4 x5 n0 h0) room_1.cells room_1.slots (s₁.setTop (mkF m 76 #[.val (.int x0), .val (.long x1), .second, .val (.long x2), .second, .val (.long x3), .second, .val (.long x4), .second, .val (.long x5), .second, .val (.int ((x0 &&& (7 : Int32)) % (6 : Int32))), .val (.long (own_f0_1 x0 x1 x2 x3 x4 x5)), .second, .val (.long (own_f0_2 x0 x1 x2 x3 x4 x5)), .second, .val (.long (own_f0_3 x0 x1 x2 x3 x4 x5)), .second, .unset, .unset, .unset, .unset, .unset, .unset, .unset, .unset, .unset] [(.long (x4 &&& (8589934591 : Int64)))]))
            rw [show (own_f0_4 x0 x1 x2 x3 x4 x5) = (x4 &&& (8589934591 : Int64)) from by simp only [own_f0_4, if_pos hc4]] at J103
            exact J103
          · refine own_Goes.step (fun tq kq => XS.icmpYes X0.here hx rfl (pc0 := 63) (pc' := 75) rfl (hb hby at_63) rfl (XT.ii_le_t hc4) (by decide) (by decide) kq) ?_
            show own_Goes p e below s (own_F0 Z x0 x1 x2 x3 x4 x5 n0 h0) room_1.cells room_1.slots (s₁.setTop (mkF m 75 #[.val (.int x0), .val (.long x1), .second, .val (.long x2), .second, .val (.long x3), .second, .val (.long x4), .second, .val (.long x5), .second, .val (.int ((x0 &&& (7 : Int32)) % (6 : Int32))), .val (.long (own_f0_1 x0 x1 x2 x3 x4 x5)), .second, .val (.long (own_f0_2 x0 x1 x2 x3 x4 x5)), .second, .val (.long (own_f0_3 x0 x1 x2 x3 x4 x5)), .second, .unset, .unset, .unset, .unset, .unset, .unset, .unset, .unset, .unset] []))
            refine own_Goes.step (fun tq kq => XT.lconstV X0.here hx rfl (0 : Int64) (hb hby at_75) (by decide) kq) ?_
            show own_Goes p e below s (own_F0 Z x0 x1 x2 x3 x4 x5 n0 h0) room_1.cells room_1.slots (s₁.setTop (mkF m 76 #[.val (.int x0), .val (.long x1), .second, .val (.long x2), .second, .val (.long x3), .second, .val (.long x4), .second, .val (.long x5), .second, .val (.int ((x0 &&& (7 : Int32)) % (6 : Int32))), .val (.long (own_f0_1 x0 x1 x2 x3 x4 x5)), .second, .val (.long (own_f0_2 x0 x1 x2 x3 x4 x5)), .second, .val (.long (own_f0_3 x0 x1 x2 x3 x4 x5)), .second, .unset, .unset, .unset, .unset, .unset, .unset, .unset, .unset, .unset] [(.long (0 : Int64))]))
            rw [show (own_f0_4 x0 x1 x2 x3 x4 x5) = (0 : Int64) from by simp only [own_f0_4, if_neg hc4]] at J103
            exact J103
        by_cases hc3 : (2 : Int32) < ((x0 &&& (7 : Int32)) % (6 : Int32))
        · refine own_Goes.step (fun tq kq => XS.icmpNo X0.here hx rfl (hb hby at_45) rfl (XT.ii_le_f hc3) kq) ?_
          show own_Goes p e below s (own_F0 Z x0 x1 x2 x3 x4 x5 n0 h0) room_1.cells room_1.slots (s₁.setTop (mkF m 48 #[.val (.int x0), .val (.long x1), .second, .val (.long x2), .second, .val (.long x3), .second, .val (.long x4), .second, .val (.long x5), .second, .val (.int ((x0 &&& (7 : Int32)) % (6 : Int32))), .val (.long (own_f0_1 x0 x1 x2 x3 x4 x5)), .second, .val (.long (own_f0_2 x0 x1 x2 x3 x4 x5)), .second, .unset, .unset, .unset, .unset, .unset, .unset, .unset, .unset, .unset, .unset, .unset] []))
          refine own_Goes.step (fun tq kq => XT.lload X0.here hx rfl (hb hby at_48) rfl kq) ?_
          show own_Goes p e below s (own_F0 Z x0 x1 x2 x3 x4 x5 n0 h0) room_1.cells room_1.slots (s₁.setTop (mkF m 50 #[.val (.int x0), .val (.long x1), .second, .val (.long x2), .second, .val (.long x3), .second, .val (.long x4), .second, .val (.long x5), .second, .val (.int ((x0 &&& (7 : Int32)) % (6 : Int32))), .val (.long (own_f0_1 x0 x1 x2 x3 x4 x5)), .second, .val (.long (own_f0_2 x0 x1 x2 x3 x4 x5)), .second, .unset, .unset, .unset, .unset, .unset, .unset, .unset, .unset, .unset, .unset, .unset] [(.long x3)]))
          refine own_Goes.step (fun tq kq => X0.ldc2J hx hown (mvT hZ (hw _ (List.mem_of_getElem? (i := 9) rfl))) rfl (hb hby at_50) kq) ?_
          show own_Goes p e below s (own_F0 Z x0 x1 x2 x3 x4 x5 n0 h0) room_1.cells room_1.slots (s₁.setTop (mkF m 53 #[.val (.int x0), .val (.long x1), .second, .val (.long x2), .second, .val (.long x3), .second, .val (.long x4), .second, .val (.long x5), .second, .val (.int ((x0 &&& (7 : Int32)) % (6 : Int32))), .val (.long (own_f0_1 x0 x1 x2 x3 x4 x5)), .second, .val (.long (own_f0_2 x0 x1 x2 x3 x4 x5)), .second, .unset, .unset, .unset, .unset, .unset, .unset, .unset, .unset, .unset, .unset, .unset] [(.long (8589934591 : Int64)), (.long x3)]))
          refine own_Goes.step (fun tq kq => XT.land X0.here hx rfl (hb hby at_53) rfl kq) ?_
          show own_Goes p e below s (own_F0 Z x0 x1 x2 x3 x4 x5 n0 h0) room_1.cells room_1.slots (s₁.setTop (mkF m 54 #[.val (.int x0), .val (.long x1), .second, .val (.long x2), .second, .val (.long x3), .second, .val (.long x4), .second, .val (.long x5), .second, .val (.int ((x0 &&& (7 : Int32)) % (6 : Int32))), .val (.long (own_f0_1 x0 x1 x2 x3 x4 x5)), .second, .val (.long (own_f0_2 x0 x1 x2 x3 x4 x5)), .second, .unset, .unset, .unset, .unset, .unset, .unset, .unset, .unset, .unset, .unset, .unset] [(.long (x3 &&& (8589934591 : Int64)))]))
          refine own_Goes.step (fun tq kq => XS.goto X0.here hx rfl (pc0 := 54) (pc' := 58) rfl (hb hby at_54) (by decide) (by decide) kq) ?_
          show own_Goes p e below s (own_F0 Z x0 x1 x2 x3 x4 x5 n0 h0) room_1.cells room_1.slots (s₁.setTop (mkF m 58 #[.val (.int x0), .val (.long x1), .second, .val (.long x2), .second, .val (.long x3), .second, .val (.long x4), .second, .val (.long x5), .second, .val (.int ((x0 &&& (7 : Int32)) % (6 : Int32))), .val (.long (own_f0_1 x0 x1 x2 x3 x4 x5)), .second, .val (.long (own_f0_2 x0 x1 x2 x3 x4 x5)), .second, .unset, .unset, .unset, .unset, .unset, .unset, .unset, .unset, .unset, .unset, .unset] [(.long (x3 &&& (8589934591 : Int64)))]))
          rw [show (own_f0_3 x0 x1 x2 x3 x4 x5) = (x3 &&& (8589934591 : Int64)) from by simp only [own_f0_3, if_pos hc3]] at J104
          exact J104
        · refine own_Goes.step (fun tq kq => XS.icmpYes X0.here hx rfl (pc0 := 45) (pc' := 57) rfl (hb hby at_45) rfl (XT.ii_le_t hc3) (by decide) (by decide) kq) ?_
          show own_Goes p e below s (own_F0 Z x0 x1 x2 x3 x4 x5 n0 h0) room_1.cells room_1.slots (s₁.setTop (mkF m 57 #[.val (.int x0), .val (.long x1), .second, .val (.long x2), .second, .val (.long x3), .second, .val (.long x4), .second, .val (.long x5), .second, .val (.int ((x0 &&& (7 : Int32)) % (6 : Int32))), .val (.long (own_f0_1 x0 x1 x2 x3 x4 x5)), .second, .val (.long (own_f0_2 x0 x1 x2 x3 x4 x5)), .second, .unset, .unset, .unset, .unset, .unset, .unset, .unset, .unset, .unset, .unset, .unset] []))
          refine own_Goes.step (fun tq kq => XT.lconstV X0.here hx rfl (0 : Int64) (hb hby at_57) (by decide) kq) ?_
          show own_Goes p e below s (own_F0 Z x0 x1 x2 x3 x4 x5 n0 h0) room_1.cells room_1.slots (s₁.setTop (mkF m 58 #[.val (.int x0), .val (.long x1), .second, .val (.long x2), .second, .val (.long x3), .second, .val (.long x4), .second, .val (.long x5), .second, .val (.int ((x0 &&& (7 : Int32)) % (6 : Int32))), .val (.long (own_f0_1 x0 x1 x2 x3 x4 x5)), .second, .val (.long (own_f0_2 x0 x1 x2 x3 x4 x5)), .second, .unset, .unset, .unset, .unset, .unset, .unset, .unset, .unset, .unset, .unset, .unset] [(.long (0 : Int64))]))
          rw [show (own_f0_3 x0 x1 x2 x3 x4 x5) = (0 : Int64) from by simp only [own_f0_3, if_neg hc3]] at J104
          exact J104
      by_cases hc2 : (1 : Int32) < ((x0 &&& (7 : Int32)) % (6 : Int32))
      · refine own_Goes.step (fun tq kq => XS.icmpNo X0.here hx rfl (hb hby at_28) rfl (XT.ii_le_f hc2) kq) ?_
        show own_Goes p e below s (own_F0 Z x0 x1 x2 x3 x4 x5 n0 h0) room_1.cells room_1.slots (s₁.setTop (mkF m 31 #[.val (.int x0), .val (.long x1), .second, .val (.long x2), .second, .val (.long x3), .second, .val (.long x4), .second, .val (.long x5), .second, .val (.int ((x0 &&& (7 : Int32)) % (6 : Int32))), .val (.long (own_f0_1 x0 x1 x2 x3 x4 x5)), .second, .unset, .unset, .unset, .unset, .unset, .unset, .unset, .unset, .unset, .unset, .unset, .unset, .unset] []))
        refine own_Goes.step (fun tq kq => XT.lloadN X0.here hx rfl (hb hby at_31) rfl kq) ?_
        show own_Goes p e below s (own_F0 Z x0 x1 x2 x3 x4 x5 n0 h0) room_1.cells room_1.slots (s₁.setTop (mkF m 32 #[.val (.int x0), .val (.long x1), .second, .val (.long x2), .second, .val (.long x3), .second, .val (.long x4), .second, .val (.long x5), .second, .val (.int ((x0 &&& (7 : Int32)) % (6 : Int32))), .val (.long (own_f0_1 x0 x1 x2 x3 x4 x5)), .second, .unset, .unset, .unset, .unset, .unset, .unset, .unset, .unset, .unset, .unset, .unset, .unset, .unset] [(.long x2)]))
        refine own_Goes.step (fun tq kq => X0.ldc2J hx hown (mvT hZ (hw _ (List.mem_of_getElem? (i := 9) rfl))) rfl (hb hby at_32) kq) ?_
        show own_Goes p e below s (own_F0 Z x0 x1 x2 x3 x4 x5 n0 h0) room_1.cells room_1.slots (s₁.setTop (mkF m 35 #[.val (.int x0), .val (.long x1), .second, .val (.long x2), .second, .val (.long x3), .second, .val (.long x4), .second, .val (.long x5), .second, .val (.int ((x0 &&& (7 : Int32)) % (6 : Int32))), .val (.long (own_f0_1 x0 x1 x2 x3 x4 x5)), .second, .unset, .unset, .unset, .unset, .unset, .unset, .unset, .unset, .unset, .unset, .unset, .unset, .unset] [(.long (8589934591 : Int64)), (.long x2)]))
        refine own_Goes.step (fun tq kq => XT.land X0.here hx rfl (hb hby at_35) rfl kq) ?_
        show own_Goes p e below s (own_F0 Z x0 x1 x2 x3 x4 x5 n0 h0) room_1.cells room_1.slots (s₁.setTop (mkF m 36 #[.val (.int x0), .val (.long x1), .second, .val (.long x2), .second, .val (.long x3), .second, .val (.long x4), .second, .val (.long x5), .second, .val (.int ((x0 &&& (7 : Int32)) % (6 : Int32))), .val (.long (own_f0_1 x0 x1 x2 x3 x4 x5)), .second, .unset, .unset, .unset, .unset, .unset, .unset, .unset, .unset, .unset, .unset, .unset, .unset, .unset] [(.long (x2 &&& (8589934591 : Int64)))]))
        refine own_Goes.step (fun tq kq => XS.goto X0.here hx rfl (pc0 := 36) (pc' := 40) rfl (hb hby at_36) (by decide) (by decide) kq) ?_
        show own_Goes p e below s (own_F0 Z x0 x1 x2 x3 x4 x5 n0 h0) room_1.cells room_1.slots (s₁.setTop (mkF m 40 #[.val (.int x0), .val (.long x1), .second, .val (.long x2), .second, .val (.long x3), .second, .val (.long x4), .second, .val (.long x5), .second, .val (.int ((x0 &&& (7 : Int32)) % (6 : Int32))), .val (.long (own_f0_1 x0 x1 x2 x3 x4 x5)), .second, .unset, .unset, .unset, .unset, .unset, .unset, .unset, .unset, .unset, .unset, .unset, .unset, .unset] [(.long (x2 &&& (8589934591 : Int64)))]))
        rw [show (own_f0_2 x0 x1 x2 x3 x4 x5) = (x2 &&& (8589934591 : Int64)) from by simp only [own_f0_2, if_pos hc2]] at J105
        exact J105
      · refine own_Goes.step (fun tq kq => XS.icmpYes X0.here hx rfl (pc0 := 28) (pc' := 39) rfl (hb hby at_28) rfl (XT.ii_le_t hc2) (by decide) (by decide) kq) ?_
        show own_Goes p e below s (own_F0 Z x0 x1 x2 x3 x4 x5 n0 h0) room_1.cells room_1.slots (s₁.setTop (mkF m 39 #[.val (.int x0), .val (.long x1), .second, .val (.long x2), .second, .val (.long x3), .second, .val (.long x4), .second, .val (.long x5), .second, .val (.int ((x0 &&& (7 : Int32)) % (6 : Int32))), .val (.long (own_f0_1 x0 x1 x2 x3 x4 x5)), .second, .unset, .unset, .unset, .unset, .unset, .unset, .unset, .unset, .unset, .unset, .unset, .unset, .unset] []))
        refine own_Goes.step (fun tq kq => XT.lconstV X0.here hx rfl (0 : Int64) (hb hby at_39) (by decide) kq) ?_
        show own_Goes p e below s (own_F0 Z x0 x1 x2 x3 x4 x5 n0 h0) room_1.cells room_1.slots (s₁.setTop (mkF m 40 #[.val (.int x0), .val (.long x1), .second, .val (.long x2), .second, .val (.long x3), .second, .val (.long x4), .second, .val (.long x5), .second, .val (.int ((x0 &&& (7 : Int32)) % (6 : Int32))), .val (.long (own_f0_1 x0 x1 x2 x3 x4 x5)), .second, .unset, .unset, .unset, .unset, .unset, .unset, .unset, .unset, .unset, .unset, .unset, .unset, .unset] [(.long (0 : Int64))]))
        rw [show (own_f0_2 x0 x1 x2 x3 x4 x5) = (0 : Int64) from by simp only [own_f0_2, if_neg hc2]] at J105
        exact J105
    by_cases hc1 : (0 : Int32) < ((x0 &&& (7 : Int32)) % (6 : Int32))
    · refine own_Goes.step (fun tq kq => XS.ifNo X0.here hx rfl (hb hby at_11) rfl (XT.i0_le_f hc1) kq) ?_
      show own_Goes p e below s (own_F0 Z x0 x1 x2 x3 x4 x5 n0 h0) room_1.cells room_1.slots (s₁.setTop (mkF m 14 #[.val (.int x0), .val (.long x1), .second, .val (.long x2), .second, .val (.long x3), .second, .val (.long x4), .second, .val (.long x5), .second, .val (.int ((x0 &&& (7 : Int32)) % (6 : Int32))), .unset, .unset, .unset, .unset, .unset, .unset, .unset, .unset, .unset, .unset, .unset, .unset, .unset, .unset, .unset] []))
      refine own_Goes.step (fun tq kq => XT.lloadN X0.here hx rfl (hb hby at_14) rfl kq) ?_
      show own_Goes p e below s (own_F0 Z x0 x1 x2 x3 x4 x5 n0 h0) room_1.cells room_1.slots (s₁.setTop (mkF m 15 #[.val (.int x0), .val (.long x1), .second, .val (.long x2), .second, .val (.long x3), .second, .val (.long x4), .second, .val (.long x5), .second, .val (.int ((x0 &&& (7 : Int32)) % (6 : Int32))), .unset, .unset, .unset, .unset, .unset, .unset, .unset, .unset, .unset, .unset, .unset, .unset, .unset, .unset, .unset] [(.long x1)]))
      refine own_Goes.step (fun tq kq => X0.ldc2J hx hown (mvT hZ (hw _ (List.mem_of_getElem? (i := 9) rfl))) rfl (hb hby at_15) kq) ?_
      show own_Goes p e below s (own_F0 Z x0 x1 x2 x3 x4 x5 n0 h0) room_1.cells room_1.slots (s₁.setTop (mkF m 18 #[.val (.int x0), .val (.long x1), .second, .val (.long x2), .second, .val (.long x3), .second, .val (.long x4), .second, .val (.long x5), .second, .val (.int ((x0 &&& (7 : Int32)) % (6 : Int32))), .unset, .unset, .unset, .unset, .unset, .unset, .unset, .unset, .unset, .unset, .unset, .unset, .unset, .unset, .unset] [(.long (8589934591 : Int64)), (.long x1)]))
      refine own_Goes.step (fun tq kq => XT.land X0.here hx rfl (hb hby at_18) rfl kq) ?_
      show own_Goes p e below s (own_F0 Z x0 x1 x2 x3 x4 x5 n0 h0) room_1.cells room_1.slots (s₁.setTop (mkF m 19 #[.val (.int x0), .val (.long x1), .second, .val (.long x2), .second, .val (.long x3), .second, .val (.long x4), .second, .val (.long x5), .second, .val (.int ((x0 &&& (7 : Int32)) % (6 : Int32))), .unset, .unset, .unset, .unset, .unset, .unset, .unset, .unset, .unset, .unset, .unset, .unset, .unset, .unset, .unset] [(.long (x1 &&& (8589934591 : Int64)))]))
      refine own_Goes.step (fun tq kq => XS.goto X0.here hx rfl (pc0 := 19) (pc' := 23) rfl (hb hby at_19) (by decide) (by decide) kq) ?_
      show own_Goes p e below s (own_F0 Z x0 x1 x2 x3 x4 x5 n0 h0) room_1.cells room_1.slots (s₁.setTop (mkF m 23 #[.val (.int x0), .val (.long x1), .second, .val (.long x2), .second, .val (.long x3), .second, .val (.long x4), .second, .val (.long x5), .second, .val (.int ((x0 &&& (7 : Int32)) % (6 : Int32))), .unset, .unset, .unset, .unset, .unset, .unset, .unset, .unset, .unset, .unset, .unset, .unset, .unset, .unset, .unset] [(.long (x1 &&& (8589934591 : Int64)))]))
      rw [show (own_f0_1 x0 x1 x2 x3 x4 x5) = (x1 &&& (8589934591 : Int64)) from by simp only [own_f0_1, if_pos hc1]] at J106
      exact J106
    · refine own_Goes.step (fun tq kq => XS.ifYes X0.here hx rfl (pc0 := 11) (pc' := 22) rfl (hb hby at_11) rfl (XT.i0_le_t hc1) (by decide) (by decide) kq) ?_
      show own_Goes p e below s (own_F0 Z x0 x1 x2 x3 x4 x5 n0 h0) room_1.cells room_1.slots (s₁.setTop (mkF m 22 #[.val (.int x0), .val (.long x1), .second, .val (.long x2), .second, .val (.long x3), .second, .val (.long x4), .second, .val (.long x5), .second, .val (.int ((x0 &&& (7 : Int32)) % (6 : Int32))), .unset, .unset, .unset, .unset, .unset, .unset, .unset, .unset, .unset, .unset, .unset, .unset, .unset, .unset, .unset] []))
      refine own_Goes.step (fun tq kq => XT.lconstV X0.here hx rfl (0 : Int64) (hb hby at_22) (by decide) kq) ?_
      show own_Goes p e below s (own_F0 Z x0 x1 x2 x3 x4 x5 n0 h0) room_1.cells room_1.slots (s₁.setTop (mkF m 23 #[.val (.int x0), .val (.long x1), .second, .val (.long x2), .second, .val (.long x3), .second, .val (.long x4), .second, .val (.long x5), .second, .val (.int ((x0 &&& (7 : Int32)) % (6 : Int32))), .unset, .unset, .unset, .unset, .unset, .unset, .unset, .unset, .unset, .unset, .unset, .unset, .unset, .unset, .unset] [(.long (0 : Int64))]))
      rw [show (own_f0_1 x0 x1 x2 x3 x4 x5) = (0 : Int64) from by simp only [own_f0_1, if_neg hc1]] at J106
      exact J106
  obtain ⟨t2, o2, q1, q2, q3, q4⟩ := hgo
  exact ⟨t2, o2, castTop (ef_0 m x0 x1 x2 x3 x4 x5) q1, q2, q3, q4⟩
def own_G (N F : Int32) (P S : Nat → Int64) : Int32 := (if N = (0 : Int32) then (if F = (-1 : Int32) then (1 : Int32) else (0 : Int32)) else (if F < (0 : Int32) then (0 : Int32) else (if (N - (1 : Int32)) < F then (0 : Int32) else (if (own_f3 F N (1 : Int32) P S 0) = (0 : Int32) then (0 : Int32) else (if (own_f3 F N (2 : Int32) P S 1) = (0 : Int32) then (0 : Int32) else (if (own_f3 F N (3 : Int32) P S 2) = (0 : Int32) then (0 : Int32) else (if (if (own_f3 F N (4 : Int32) P S 3) = (0 : Int32) then (0 : Int32) else (1 : Int32)) = (0 : Int32) then (0 : Int32) else (if F = (0 : Int32) then (1 : Int32) else (if (own_f4 P S (F.toInt.toNat - 1)) = (0 : Int32) then (1 : Int32) else (0 : Int32))))))))))
theorem own_mf_f4 (w P S : Nat → Int64) (k : Nat) (hP : P k = w k) (hS : S k = w k + S (k + 1)) : own_mf w (k + 1) (S (k + 1)) = if own_f4 P S k = (0 : Int32) then Int32.ofNat (k + 1) else own_mf w k (S k) := by
  rw [own_mf_succ]
  have e : S (k + 1) + w k = S k := by rw [hS, Int64.add_comm]
  rw [e]
  unfold own_f4
  have n1 : ¬ (1 : Int32) = 0 := by decide
  rw [hP]
  by_cases a : (2 : Int64) * S (k + 1) < w k
  · simp only [if_pos a, if_true]
  · by_cases b : (2097152 : Int64) < w k + S (k + 1)
    · simp only [if_neg a, if_pos b, if_true]
    · simp only [if_neg a, if_neg b, if_neg n1]
theorem own_core1 (p0 p1 p2 p3 p4 : Int64) (P S : Nat → Int64) (h0 : P 0 = p0) (h1 : P 1 = p1) (h2 : P 2 = p2) (h3 : P 3 = p3) (s4 : S 4 = p4) (s3 : S 3 = p3 + S 4) (s2 : S 2 = p2 + S 3) (s1 : S 1 = p1 + S 2) (s0 : S 0 = p0 + S 1) (z1 : p1 = 0) (z2 : p2 = 0) (z3 : p3 = 0) (z4 : p4 = 0) : own_G 1 (own_mfr (own_w p0 p1 p2 p3 p4) 1) P S = 1 := by
  have e : own_w p0 p1 p2 p3 p4 0 = S 0 := by rw [s0, s1, s2, s3, s4, z1, z2, z3, z4]; simp; rfl
  have t : own_mfr (own_w p0 p1 p2 p3 p4) 1 = own_mf (own_w p0 p1 p2 p3 p4) 0 (S 0) := by rw [← e]; rfl
  rw [t]
  have hF : own_mf (own_w p0 p1 p2 p3 p4) 0 (S 0) = (0 : Int32) := by
    rfl
  rw [hF]
  simp [own_G, own_f3]
theorem own_core2 (p0 p1 p2 p3 p4 : Int64) (P S : Nat → Int64) (h0 : P 0 = p0) (h1 : P 1 = p1) (h2 : P 2 = p2) (h3 : P 3 = p3) (s4 : S 4 = p4) (s3 : S 3 = p3 + S 4) (s2 : S 2 = p2 + S 3) (s1 : S 1 = p1 + S 2) (s0 : S 0 = p0 + S 1) (z2 : p2 = 0) (z3 : p3 = 0) (z4 : p4 = 0) : own_G 2 (own_mfr (own_w p0 p1 p2 p3 p4) 2) P S = 1 := by
  have e : own_w p0 p1 p2 p3 p4 1 = S 1 := by rw [s1, s2, s3, s4, z2, z3, z4]; simp; rfl
  have t : own_mfr (own_w p0 p1 p2 p3 p4) 2 = own_mf (own_w p0 p1 p2 p3 p4) 1 (S 1) := by rw [← e]; rfl
  rw [t]
  have m0 := own_mf_f4 (own_w p0 p1 p2 p3 p4) P S 0 h0 s0
  by_cases c0 : own_f4 P S 0 = (0 : Int32)
  · have hF : own_mf (own_w p0 p1 p2 p3 p4) 1 (S 1) = (1 : Int32) := by
      rw [m0, if_pos c0]; rfl
    rw [hF]
    have i0 : ((1 : Int32).toInt.toNat - 1) = 0 := rfl
    simp [own_G, own_f3, i0, c0]
  · skip
    have hF : own_mf (own_w p0 p1 p2 p3 p4) 1 (S 1) = (0 : Int32) := by
      rw [m0, if_neg c0]; rfl
    rw [hF]
    simp [own_G, own_f3, c0]
theorem own_core3 (p0 p1 p2 p3 p4 : Int64) (P S : Nat → Int64) (h0 : P 0 = p0) (h1 : P 1 = p1) (h2 : P 2 = p2) (h3 : P 3 = p3) (s4 : S 4 = p4) (s3 : S 3 = p3 + S 4) (s2 : S 2 = p2 + S 3) (s1 : S 1 = p1 + S 2) (s0 : S 0 = p0 + S 1) (z3 : p3 = 0) (z4 : p4 = 0) : own_G 3 (own_mfr (own_w p0 p1 p2 p3 p4) 3) P S = 1 := by
  have e : own_w p0 p1 p2 p3 p4 2 = S 2 := by rw [s2, s3, s4, z3, z4]; simp; rfl
  have t : own_mfr (own_w p0 p1 p2 p3 p4) 3 = own_mf (own_w p0 p1 p2 p3 p4) 2 (S 2) := by rw [← e]; rfl
  rw [t]
  have m1 := own_mf_f4 (own_w p0 p1 p2 p3 p4) P S 1 h1 s1
  have m0 := own_mf_f4 (own_w p0 p1 p2 p3 p4) P S 0 h0 s0
  by_cases c1 : own_f4 P S 1 = (0 : Int32)
  · have hF : own_mf (own_w p0 p1 p2 p3 p4) 2 (S 2) = (2 : Int32) := by
      rw [m1, if_pos c1]; rfl
    rw [hF]
    have i1 : ((2 : Int32).toInt.toNat - 1) = 1 := rfl
    simp [own_G, own_f3, i1, c1]
  · skip
    by_cases c0 : own_f4 P S 0 = (0 : Int32)
    · have hF : own_mf (own_w p0 p1 p2 p3 p4) 2 (S 2) = (1 : Int32) := by
        rw [m1, if_neg c1, m0, if_pos c0]; rfl
      rw [hF]
      have i0 : ((1 : Int32).toInt.toNat - 1) = 0 := rfl
      simp [own_G, own_f3, i0, c0, c1]
    · skip
      have hF : own_mf (own_w p0 p1 p2 p3 p4) 2 (S 2) = (0 : Int32) := by
        rw [m1, if_neg c1, m0, if_neg c0]; rfl
      rw [hF]
      simp [own_G, own_f3, c1, c0]
theorem own_core4 (p0 p1 p2 p3 p4 : Int64) (P S : Nat → Int64) (h0 : P 0 = p0) (h1 : P 1 = p1) (h2 : P 2 = p2) (h3 : P 3 = p3) (s4 : S 4 = p4) (s3 : S 3 = p3 + S 4) (s2 : S 2 = p2 + S 3) (s1 : S 1 = p1 + S 2) (s0 : S 0 = p0 + S 1) (z4 : p4 = 0) : own_G 4 (own_mfr (own_w p0 p1 p2 p3 p4) 4) P S = 1 := by
  have e : own_w p0 p1 p2 p3 p4 3 = S 3 := by rw [s3, s4, z4]; simp; rfl
  have t : own_mfr (own_w p0 p1 p2 p3 p4) 4 = own_mf (own_w p0 p1 p2 p3 p4) 3 (S 3) := by rw [← e]; rfl
  rw [t]
  have m2 := own_mf_f4 (own_w p0 p1 p2 p3 p4) P S 2 h2 s2
  have m1 := own_mf_f4 (own_w p0 p1 p2 p3 p4) P S 1 h1 s1
  have m0 := own_mf_f4 (own_w p0 p1 p2 p3 p4) P S 0 h0 s0
  by_cases c2 : own_f4 P S 2 = (0 : Int32)
  · have hF : own_mf (own_w p0 p1 p2 p3 p4) 3 (S 3) = (3 : Int32) := by
      rw [m2, if_pos c2]; rfl
    rw [hF]
    have i2 : ((3 : Int32).toInt.toNat - 1) = 2 := rfl
    simp [own_G, own_f3, i2, c2]
  · skip
    by_cases c1 : own_f4 P S 1 = (0 : Int32)
    · have hF : own_mf (own_w p0 p1 p2 p3 p4) 3 (S 3) = (2 : Int32) := by
        rw [m2, if_neg c2, m1, if_pos c1]; rfl
      rw [hF]
      have i1 : ((2 : Int32).toInt.toNat - 1) = 1 := rfl
      simp [own_G, own_f3, i1, c1, c2]
    · skip
      by_cases c0 : own_f4 P S 0 = (0 : Int32)
      · have hF : own_mf (own_w p0 p1 p2 p3 p4) 3 (S 3) = (1 : Int32) := by
          rw [m2, if_neg c2, m1, if_neg c1, m0, if_pos c0]; rfl
        rw [hF]
        have i0 : ((1 : Int32).toInt.toNat - 1) = 0 := rfl
        simp [own_G, own_f3, i0, c0, c2, c1]
      · skip
        have hF : own_mf (own_w p0 p1 p2 p3 p4) 3 (S 3) = (0 : Int32) := by
          rw [m2, if_neg c2, m1, if_neg c1, m0, if_neg c0]; rfl
        rw [hF]
        simp [own_G, own_f3, c2, c1, c0]
theorem own_core5 (p0 p1 p2 p3 p4 : Int64) (P S : Nat → Int64) (h0 : P 0 = p0) (h1 : P 1 = p1) (h2 : P 2 = p2) (h3 : P 3 = p3) (s4 : S 4 = p4) (s3 : S 3 = p3 + S 4) (s2 : S 2 = p2 + S 3) (s1 : S 1 = p1 + S 2) (s0 : S 0 = p0 + S 1)  : own_G 5 (own_mfr (own_w p0 p1 p2 p3 p4) 5) P S = 1 := by
  have e : own_w p0 p1 p2 p3 p4 4 = S 4 := by rw [s4]; rfl
  have t : own_mfr (own_w p0 p1 p2 p3 p4) 5 = own_mf (own_w p0 p1 p2 p3 p4) 4 (S 4) := by rw [← e]; rfl
  rw [t]
  have m3 := own_mf_f4 (own_w p0 p1 p2 p3 p4) P S 3 h3 s3
  have m2 := own_mf_f4 (own_w p0 p1 p2 p3 p4) P S 2 h2 s2
  have m1 := own_mf_f4 (own_w p0 p1 p2 p3 p4) P S 1 h1 s1
  have m0 := own_mf_f4 (own_w p0 p1 p2 p3 p4) P S 0 h0 s0
  by_cases c3 : own_f4 P S 3 = (0 : Int32)
  · have hF : own_mf (own_w p0 p1 p2 p3 p4) 4 (S 4) = (4 : Int32) := by
      rw [m3, if_pos c3]; rfl
    rw [hF]
    have i3 : ((4 : Int32).toInt.toNat - 1) = 3 := rfl
    simp [own_G, own_f3, i3, c3]
  · skip
    by_cases c2 : own_f4 P S 2 = (0 : Int32)
    · have hF : own_mf (own_w p0 p1 p2 p3 p4) 4 (S 4) = (3 : Int32) := by
        rw [m3, if_neg c3, m2, if_pos c2]; rfl
      rw [hF]
      have i2 : ((3 : Int32).toInt.toNat - 1) = 2 := rfl
      simp [own_G, own_f3, i2, c2, c3]
    · skip
      by_cases c1 : own_f4 P S 1 = (0 : Int32)
      · have hF : own_mf (own_w p0 p1 p2 p3 p4) 4 (S 4) = (2 : Int32) := by
          rw [m3, if_neg c3, m2, if_neg c2, m1, if_pos c1]; rfl
        rw [hF]
        have i1 : ((2 : Int32).toInt.toNat - 1) = 1 := rfl
        simp [own_G, own_f3, i1, c1, c3, c2]
      · skip
        by_cases c0 : own_f4 P S 0 = (0 : Int32)
        · have hF : own_mf (own_w p0 p1 p2 p3 p4) 4 (S 4) = (1 : Int32) := by
            rw [m3, if_neg c3, m2, if_neg c2, m1, if_neg c1, m0, if_pos c0]; rfl
          rw [hF]
          have i0 : ((1 : Int32).toInt.toNat - 1) = 0 := rfl
          simp [own_G, own_f3, i0, c0, c3, c2, c1]
        · skip
          have hF : own_mf (own_w p0 p1 p2 p3 p4) 4 (S 4) = (0 : Int32) := by
            rw [m3, if_neg c3, m2, if_neg c2, m1, if_neg c1, m0, if_neg c0]; rfl
          rw [hF]
          simp [own_G, own_f3, c3, c2, c1, c0]
theorem own_law (x0 : Int32) (x1 x2 x3 x4 x5 : Int64) : own_f0 x0 x1 x2 x3 x4 x5 = 1 := by
  have key : own_f0 x0 x1 x2 x3 x4 x5 = own_G ((x0 &&& (7 : Int32)) % (6 : Int32)) (own_f0_6 x0 x1 x2 x3 x4 x5) (own_f0_11 x0 x1 x2 x3 x4 x5) (own_f0_16 x0 x1 x2 x3 x4 x5) := rfl
  rw [key]
  have hb := own_nb x0
  have he := own_ne x0
  have cs : ((x0 &&& (7 : Int32)) % (6 : Int32)) = 0 ∨ ((x0 &&& (7 : Int32)) % (6 : Int32)) = 1 ∨ ((x0 &&& (7 : Int32)) % (6 : Int32)) = 2 ∨ ((x0 &&& (7 : Int32)) % (6 : Int32)) = 3 ∨ ((x0 &&& (7 : Int32)) % (6 : Int32)) = 4 ∨ ((x0 &&& (7 : Int32)) % (6 : Int32)) = 5 := by
    simp only [own_eq32, Int32.reduceToInt]
    omega
  unfold own_f0_6
  rcases cs with h | h | h | h | h | h
  · have hn : own_n x0 = 0 := by rw [h] at he; exact (Int.ofNat_inj.mp he).symm
    rw [h, hn]
    simp [own_G, own_mfr]
  · have hn : own_n x0 = 1 := by rw [h] at he; exact (Int.ofNat_inj.mp he).symm
    rw [h, hn]
    exact own_core1 _ _ _ _ _ _ _ rfl rfl rfl rfl rfl rfl rfl rfl rfl (by unfold own_f0_2; rw [h]; rfl) (by unfold own_f0_3; rw [h]; rfl) (by unfold own_f0_4; rw [h]; rfl) (by unfold own_f0_5; rw [h]; rfl)
  · have hn : own_n x0 = 2 := by rw [h] at he; exact (Int.ofNat_inj.mp he).symm
    rw [h, hn]
    exact own_core2 _ _ _ _ _ _ _ rfl rfl rfl rfl rfl rfl rfl rfl rfl (by unfold own_f0_3; rw [h]; rfl) (by unfold own_f0_4; rw [h]; rfl) (by unfold own_f0_5; rw [h]; rfl)
  · have hn : own_n x0 = 3 := by rw [h] at he; exact (Int.ofNat_inj.mp he).symm
    rw [h, hn]
    exact own_core3 _ _ _ _ _ _ _ rfl rfl rfl rfl rfl rfl rfl rfl rfl (by unfold own_f0_4; rw [h]; rfl) (by unfold own_f0_5; rw [h]; rfl)
  · have hn : own_n x0 = 4 := by rw [h] at he; exact (Int.ofNat_inj.mp he).symm
    rw [h, hn]
    exact own_core4 _ _ _ _ _ _ _ rfl rfl rfl rfl rfl rfl rfl rfl rfl (by unfold own_f0_5; rw [h]; rfl)
  · have hn : own_n x0 = 5 := by rw [h] at he; exact (Int.ofNat_inj.mp he).symm
    rw [h, hn]
    exact own_core5 _ _ _ _ _ _ _ rfl rfl rfl rfl rfl rfl rfl rfl rfl
set_option maxRecDepth 65536 in
set_option maxHeartbeats 40000000 in
theorem comes_1 {Post : Tables → Env → Array Value → State → Outcome → State → Prop} (hpost : ∀ tb e args s v u, (limb_1_1.after args s (.returned v) u = true ∧ limb_1_2.after args s (.returned v) u = true ∧ True) → FrameEnd s (.returned v) u (Jvm.fieldLocs frame_1_writes args s ++ Jvm.arrayLocs frame_1_arrays args s ++ Jvm.staticLocs frame_1_statics s) 16 128 → Post tb e args s (.returned v) u) :
    ArmFor flags0 classFile x code maxLocals ret World_1 tables_1 room_1 Calls_1 rest_1 Pre_1 Post := by
  intro l hfl _ _ p e ha hc hk s m args below hf hA hF happ hP
  obtain ⟨hcalls, hrest, hpre⟩ := hP
  obtain ⟨-, -, -, hnamed, -, -, -, hat⟩ := (Spec.applies_iff hf).mp happ
  obtain ⟨hg, hn⟩ := and_e (Cond.before_iff.mp (show (Jvm.Cond.and given_1 narrow_1).before args s = true from hpre))
  obtain ⟨hcount, hr0⟩ := and_e hg
  obtain ⟨w0, w1, w2, w3, w4, w5, rfl⟩ : ∃ w0 w1 w2 w3 w4 w5 : Value, args = #[w0, w1, w2, w3, w4, w5] := by
    have hs : args.size = 6 := by simpa [Cond.value, given_1] using hcount
    obtain ⟨L⟩ := args
    match L, hs with
    | [w0, w1, w2, w3, w4, w5], _ => exact ⟨w0, w1, w2, w3, w4, w5, rfl⟩
  have hw := fun d (hd : d ∈ tables_1) => atoms_spec (ws := Jvm.Cond.code x code maxLocals ret :: tables_1) hat d (List.mem_cons_of_mem _ hd)
  obtain ⟨ha0, hr1⟩ := and_e hr0
  obtain ⟨i0, ev0⟩ := is_v ha0
  obtain rfl : w0 = (.int i0) := Option.some.inj ev0
  obtain ⟨ha1, hr2⟩ := and_e hr1
  obtain ⟨i1, ev1⟩ := isL_v ha1
  obtain rfl : w1 = (.long i1) := Option.some.inj ev1
  obtain ⟨ha2, hr3⟩ := and_e hr2
  obtain ⟨i2, ev2⟩ := isL_v ha2
  obtain rfl : w2 = (.long i2) := Option.some.inj ev2
  obtain ⟨ha3, hr4⟩ := and_e hr3
  obtain ⟨i3, ev3⟩ := isL_v ha3
  obtain rfl : w3 = (.long i3) := Option.some.inj ev3
  obtain ⟨ha4, hr5⟩ := and_e hr4
  obtain ⟨i4, ev4⟩ := isL_v ha4
  obtain rfl : w4 = (.long i4) := Option.some.inj ev4
  obtain ⟨i5, ev5⟩ := isL_v hr5
  obtain rfl : w5 = (.long i5) := Option.some.inj ev5
  obtain ⟨n, o, h1, h2, h3, _, L, rfl, ⟨rfl, N⟩, hq⟩ := own_m0 l s _ hw tables_1 i0 i1 i2 i3 i4 i5 s.heap.size s.heap (Nat.le_refl _) p e ha hc hk s m _ below hf ((Spec.applies_iff_loose hf).mp happ).1 ⟨rfl, State.Warmed39.refl s, rfl⟩ trivial
  rw [own_law i0 i1 i2 i3 i4 i5] at h3 hq
  refine ⟨n, _, h1, h2, h3, hpost _ _ _ _ _ _ ⟨Cond.after_iff.mpr rfl, Cond.after_iff.mpr (eq_i res_at (Term.int_eval (1)) rfl), trivial⟩ ⟨hq.1, hq.2.1, (hq.2.2.sift fun y hy => Or.inr (N y hy)).mono (by decide) (by decide)⟩⟩
theorem main_1_1 : Claimed_1_1 := comes_1 fun _ _ _ _ _ _ h hF => ⟨h.1, hF⟩
theorem main_1_2 : Claimed_1_2 := comes_1 fun _ _ _ _ _ _ h hF => ⟨h.2.1, hF⟩
end Jvm.Pilot.@@N@@
namespace Jvm.Pilot.@@N@@
open Jvm Jvm.ClassFile Sem Op Lib Jvm.Free Jvm.Stand Jvm.Pilot.@@N@@.Jvm.D
/-! MADE BY PROGRAM (witnessworld.py) out of the Statement's table words and the real class files: 11 classes; the members and pool entries that the words name. The judged class is class 1, her method 1. -/
namespace start1
open Jvm.ClassFile
def u (s : String) : CpInfo := .utf8 (stringToUtf16 s)
/-- a pool by its gaps: so many unusable entries, then the entry; so many at the end -/
def gap : Nat → List CpInfo → List CpInfo
  | 0, r => r
  | n + 1, r => .unusable :: gap n r
def poolList (es : List (Nat × CpInfo)) (last : Nat) : List CpInfo := es.foldr (fun e r => gap e.1 (e.2 :: r)) (gap last [])
def pool (es : List (Nat × CpInfo)) (last : Nat) : Array CpInfo := ⟨poolList es last⟩
def fileOf (pool : Array CpInfo) (this : Nat) (attrs : Array Attribute := #[]) (ms : Array MethodInfo := #[]) (fl : Nat := 33) (sup : Nat := 0) (ifs : Array Nat := #[]) (fds : Array FieldInfo := #[]) : ClassFile where
  minorVersion := 0
  majorVersion := 65
  constantPool := pool
  accessFlags := fl
  thisClass := this
  superClass := sup
  interfaces := ifs
  fields := fds
  methods := ms
  attributes := attrs
def plain (name : String) (sup : Option ClassId) : Class where
  name := name
  kind := .ordinary
  loader := none
  accessFlags := 33
  super := sup
  interfaces := #[]
  cf := none
  fields := #[]
  methods := #[]
  instanceTypes := #[]
  staticTypes := #[]
  resolved := #[]
  callSites := []
  init := .initialized
  statics := none
  mirror := none

def pool0 : Array CpInfo := pool [(5, u "<init>"), (0, u "()V"), (1, .class_ 10), (1, u "java/lang/Object")] 113

def k0m0 : Method := { name := "<init>", desc := "()V", sig := { parameters := [], returnType := none }, accessFlags := 1, code := none }
/-- java/lang/Object -/
def k0 : Class := { plain "java/lang/Object" none with
  accessFlags := 33
  interfaces := #[]
  cf := some (fileOf pool0 8 #[] #[{ accessFlags := 1, nameIndex := 5, descriptorIndex := 6, attributes := #[] }] 33 0 #[] #[])
  fields := #[]
  methods := #[k0m0]
  instanceTypes := #[]
  staticTypes := #[]
  resolved := Array.replicate 124 none
  statics := none }

def pool1 : Array CpInfo := pool [(2, .class_ 4), (1, u "java/lang/Object"), (0, u "<init>"), (0, u "()V"), (0, .long 8589934591), (1, .methodref 10 11), (0, .class_ 12), (0, .nameAndType 13 14), (0, u "com/example/backtrail/backtrail/core/GraphMergeMergeFromPinLaw"), (0, u "build"), (0, u "(IJJJJJ)[J"), (0, .methodref 16 17), (0, .class_ 18), (0, .nameAndType 19 20), (0, u "com/example/backtrail/backtrail/core/GraphMerge"), (0, u "mergeFrom"), (0, u "([J)I"), (0, .methodref 10 22), (0, .nameAndType 23 24), (0, u "holds"), (0, u "([J[JIII)Z"), (0, .methodref 10 26), (0, .nameAndType 27 28), (0, u "step"), (0, u "([J[JI)Z"), (0, .long 2), (1, .long 2097152), (3, u "law"), (0, u "(IJJJJJ)Z")] 5

def k1m0 : Method := { name := "<init>", desc := "()V", sig := { parameters := [], returnType := none }, accessFlags := 2, code := none }
def k1c1 : Code := { maxStack := 11, maxLocals := 27, code := code, exceptionTable := #[], attributes := #[] }
def k1m1 : Method := { name := "law", desc := "(IJJJJJ)Z", sig := { parameters := [.int, .long, .long, .long, .long, .long], returnType := some .boolean }, accessFlags := 9, code := some k1c1 }
def k1c2 : Code := { maxStack := 5, maxLocals := 11, code := method_3_code, exceptionTable := #[], attributes := #[] }
def k1m2 : Method := { name := "build", desc := "(IJJJJJ)[J", sig := { parameters := [.int, .long, .long, .long, .long, .long], returnType := some (.array .long) }, accessFlags := 10, code := some k1c2 }
def k1c3 : Code := { maxStack := 6, maxLocals := 3, code := method_4_code, exceptionTable := #[], attributes := #[] }
def k1m3 : Method := { name := "step", desc := "([J[JI)Z", sig := { parameters := [(.array .long), (.array .long), .int], returnType := some .boolean }, accessFlags := 10, code := some k1c3 }
def k1c4 : Code := { maxStack := 3, maxLocals := 5, code := method_5_code, exceptionTable := #[], attributes := #[] }
def k1m4 : Method := { name := "holds", desc := "([J[JIII)Z", sig := { parameters := [(.array .long), (.array .long), .int, .int, .int], returnType := some .boolean }, accessFlags := 10, code := some k1c4 }
/-- com/example/backtrail/backtrail/core/GraphMergeMergeFromPinLaw -/
def k1 : Class := { plain "com/example/backtrail/backtrail/core/GraphMergeMergeFromPinLaw" (some 0) with
  accessFlags := 49
  interfaces := #[]
  cf := some (fileOf pool1 10 #[] #[{ accessFlags := 2, nameIndex := 5, descriptorIndex := 6, attributes := #[] }, { accessFlags := 9, nameIndex := 35, descriptorIndex := 36, attributes := #[] }, { accessFlags := 10, nameIndex := 13, descriptorIndex := 14, attributes := #[] }, { accessFlags := 10, nameIndex := 27, descriptorIndex := 28, attributes := #[] }, { accessFlags := 10, nameIndex := 23, descriptorIndex := 24, attributes := #[] }] 49 2 #[] #[])
  fields := #[]
  methods := #[k1m0, k1m1, k1m2, k1m3, k1m4]
  instanceTypes := #[]
  staticTypes := #[]
  resolved := Array.replicate 42 none
  statics := none }

def pool2 : Array CpInfo := pool [(2, .class_ 4), (1, u "java/lang/Object"), (0, u "<init>"), (0, u "()V"), (0, .class_ 8), (0, u "com/example/backtrail/backtrail/core/GraphMerge"), (0, .long 2), (1, .long 2097152), (16, .class_ 29), (0, u "com/example/backtrail/backtrail/core/GraphMerge$1"), (19, u "RATIO"), (0, u "I"), (2, u "MAX_WEIGHT"), (0, u "J"), (2, u "mergeFrom"), (0, u "([J)I")] 37

def k2m0 : Method := { name := "<init>", desc := "()V", sig := { parameters := [], returnType := none }, accessFlags := 2, code := none }
def k2c1 : Code := { maxStack := 6, maxLocals := 4, code := prog_13_method_2_code, exceptionTable := #[], attributes := #[] }
def k2m1 : Method := { name := "mergeFrom", desc := "([J)I", sig := { parameters := [(.array .long)], returnType := some .int }, accessFlags := 8, code := some k2c1 }
/-- com/example/backtrail/backtrail/core/GraphMerge -/
def k2 : Class := { plain "com/example/backtrail/backtrail/core/GraphMerge" (some 0) with
  accessFlags := 48
  interfaces := #[]
  cf := some (fileOf pool2 7 #[.nestMembers #[28]] #[{ accessFlags := 2, nameIndex := 5, descriptorIndex := 6, attributes := #[] }, { accessFlags := 8, nameIndex := 57, descriptorIndex := 58, attributes := #[] }] 48 2 #[] #[{ accessFlags := 24, nameIndex := 49, descriptorIndex := 50, attributes := #[] }, { accessFlags := 24, nameIndex := 53, descriptorIndex := 54, attributes := #[] }])
  fields := #[{ name := "RATIO", type := .int, accessFlags := 24, slot := 0, constantValue := 0 }, { name := "MAX_WEIGHT", type := .long, accessFlags := 24, slot := 1, constantValue := 0 }]
  methods := #[k2m0, k2m1]
  instanceTypes := #[]
  staticTypes := #[.int, .long]
  resolved := Array.replicate 96 none
  statics := none }

def pool3 : Array CpInfo := pool [(1, u "java/lang/Cloneable"), (0, .class_ 1), (0, u "java/lang/Object"), (0, .class_ 3)] 3

/-- java/lang/Cloneable -/
def k3 : Class := { plain "java/lang/Cloneable" (some 0) with
  accessFlags := 1537
  interfaces := #[]
  cf := some (fileOf pool3 2 #[] #[] 1537 4 #[] #[])
  fields := #[]
  methods := #[]
  instanceTypes := #[]
  staticTypes := #[]
  resolved := Array.replicate 8 none
  statics := none }

def pool4 : Array CpInfo := pool [(1, u "java/io/Serializable"), (0, .class_ 1), (0, u "java/lang/Object"), (0, .class_ 3)] 3

/-- java/io/Serializable -/
def k4 : Class := { plain "java/io/Serializable" (some 0) with
  accessFlags := 1537
  interfaces := #[]
  cf := some (fileOf pool4 2 #[] #[] 1537 4 #[] #[])
  fields := #[]
  methods := #[]
  instanceTypes := #[]
  staticTypes := #[]
  resolved := Array.replicate 8 none
  statics := none }

/-- the primitive byte -/
def k5 : Class := { plain "byte" none with kind := .primitive 'B', accessFlags := 0x411 }
/-- [B -/
def k6 : Class := { plain "[B" (some 0) with kind := .array 5 .byte, interfaces := #[3, 4], accessFlags := 1041 }

/-- the primitive int -/
def k7 : Class := { plain "int" none with kind := .primitive 'I', accessFlags := 0x411 }
/-- [I -/
def k8 : Class := { plain "[I" (some 0) with kind := .array 7 .int, interfaces := #[3, 4], accessFlags := 1041 }

/-- the primitive long -/
def k9 : Class := { plain "long" none with kind := .primitive 'J', accessFlags := 0x411 }
/-- [J -/
def k10 : Class := { plain "[J" (some 0) with kind := .array 9 .long, interfaces := #[3, 4], accessFlags := 1041 }

def heap : Heap := #[]
def classes : Array Class := #[k0, k1, k2, k3, k4, k5, k6, k7, k8, k9, k10]
def interned : List (Array UInt16 × Addr) := []
def slotsUsed : Nat := 0
def theMethod : MethodId := ⟨1, 1⟩
def args0 : Array Value := #[.int 3, .long 1, .long 2, .long 3, .long 4, .long 5]
def aboutOver (below : List Frame) : State where
  vm := { classes := classes, interned := interned.toArray }
  heap := heap
  slotsUsed := slotsUsed
  threads := #[{ frames := .invoking theMethod args0 :: below }]
def below0 : List Frame := [.native { method := ⟨0, 0⟩, args := #[] }]
def about1 : State := aboutOver below0
def p0 : Program := .bare "" "" ""
def e0 : Env := launch0.env 0 0 0
theorem w_frames : about1.frames = Frame.invoking theMethod args0 :: below0 := rfl
set_option maxRecDepth 65536 in
theorem w_args : argsFit about1.vm theMethod args0 = true := by decide +kernel
set_option maxRecDepth 65536 in
theorem w_heap : heapFits about1 = true := by decide +kernel
set_option maxRecDepth 65536 in
theorem w_runnable : about1.curStatus? = some .runnable := by decide +kernel
set_option maxRecDepth 65536 in
theorem w_alone : about1.alone = true := by decide +kernel
set_option maxRecDepth 65536 in
theorem w_named : about1.methodNamed? x = some theMethod := by decide +kernel
set_option maxRecDepth 65536 in
theorem w_hears : about1.hears theMethod below0 = true := by decide +kernel
set_option maxRecDepth 65536 in
theorem w_ripe : about1.ripe theMethod args0 below0 = true := by decide +kernel
theorem w_running : about1.status = .running := rfl
set_option maxRecDepth 65536 in
theorem w_room : about1.hasRoom e0.platform room_1 = true :=
  launch0.hasRoom_least _ room_1 (by decide +kernel) (by decide +kernel) (by decide +kernel) (by decide +kernel) (by decide +kernel) (by decide +kernel)
theorem allAtoms_all (ts : List Jvm.Cond) (a : Array Jvm.Value) (st : Jvm.State) : (allAtoms ts).before a st = ts.all (fun c => c.before a st) := by
  induction ts with
  | nil => rfl
  | cons c t ih =>
    show (Jvm.Cond.and c (allAtoms t)).before a st = _
    rw [Jvm.Cond.before_and, ih, List.all_cons]
def words1 : List Jvm.Cond := Jvm.Cond.code x code maxLocals ret :: tables_1
/-- a 'code' word, met by the world's own term for the bytes: nothing is compared byte by byte -/
theorem code_word {y : MethodName} {bytes : ByteArray} {mx : Nat} {rt : Option FieldType} {a : Array Value} {s : State} {m : MethodId} {meth : Method} {c : Code} (h1 : s.methodNamed? y = some m) (h2 : s.vm.method? m = some meth) (h3 : meth.code = some c) (h4 : c.code = bytes)
    (h5 : (c.maxLocals == mx && c.exceptionTable.isEmpty && decide (c.maxStack ≤ mostOperands) && decide (meth.sig.returnType = rt) && !meth.locks && decide (parseMethodDescriptor y.desc = some meth.sig)) = true) : (Jvm.Cond.code y bytes mx rt).before a s = true := by
  simp only [Bool.and_eq_true, beq_iff_eq, Bool.not_eq_true', decide_eq_true_eq] at h5
  obtain ⟨⟨⟨⟨⟨g1, g2⟩, g3⟩, g4⟩, g5⟩, g6⟩ := h5
  simp [Cond.before, Cond.holds, Cond.value, h1, h2, h3, h4, g1, g2, g3, g4, g5, g6]
def isCode : Jvm.Cond → Bool
  | .code _ _ _ _ => true
  | _ => false
theorem all_split {L : List Jvm.Cond} {P : Jvm.Cond → Bool} (h1 : L.all (fun c => isCode c || P c) = true) (h2 : ∀ c ∈ L.filter isCode, P c = true) : L.all P = true := by
  refine List.all_eq_true.mpr fun c hc => ?_
  have h := List.all_eq_true.mp h1 c hc
  rcases Bool.eq_false_or_eq_true (isCode c) with hi | hi
  · exact h2 c (List.mem_filter.mpr ⟨hc, hi⟩)
  · simpa [hi] using h
set_option maxRecDepth 65536 in
theorem w_c0 : (Jvm.Cond.code x code maxLocals ret).before args0 about1 = true := code_word (m := ⟨1, 1⟩) (meth := k1m1) (c := k1c1) (by decide +kernel) rfl rfl rfl (by decide +kernel)
set_option maxRecDepth 65536 in
theorem w_c1 : (Jvm.Cond.code ({ cls := "com/example/backtrail/backtrail/core/GraphMergeMergeFromPinLaw", name := "build", desc := "(IJJJJJ)[J" } : Jvm.MethodName) method_3_code (11 : Nat) (Option.some (Jvm.ClassFile.FieldType.array Jvm.ClassFile.FieldType.long))).before args0 about1 = true := code_word (m := ⟨1, 2⟩) (meth := k1m2) (c := k1c2) (by decide +kernel) rfl rfl rfl (by decide +kernel)
set_option maxRecDepth 65536 in
theorem w_c2 : (Jvm.Cond.code ({ cls := "com/example/backtrail/backtrail/core/GraphMerge", name := "mergeFrom", desc := "([J)I" } : Jvm.MethodName) prog_13_method_2_code (4 : Nat) (Option.some Jvm.ClassFile.FieldType.int)).before args0 about1 = true := code_word (m := ⟨2, 1⟩) (meth := k2m1) (c := k2c1) (by decide +kernel) rfl rfl rfl (by decide +kernel)
set_option maxRecDepth 65536 in
theorem w_c3 : (Jvm.Cond.code ({ cls := "com/example/backtrail/backtrail/core/GraphMergeMergeFromPinLaw", name := "holds", desc := "([J[JIII)Z" } : Jvm.MethodName) method_5_code (5 : Nat) (Option.some Jvm.ClassFile.FieldType.boolean)).before args0 about1 = true := code_word (m := ⟨1, 4⟩) (meth := k1m4) (c := k1c4) (by decide +kernel) rfl rfl rfl (by decide +kernel)
set_option maxRecDepth 65536 in
theorem w_c4 : (Jvm.Cond.code ({ cls := "com/example/backtrail/backtrail/core/GraphMergeMergeFromPinLaw", name := "step", desc := "([J[JI)Z" } : Jvm.MethodName) method_4_code (3 : Nat) (Option.some Jvm.ClassFile.FieldType.boolean)).before args0 about1 = true := code_word (m := ⟨1, 3⟩) (meth := k1m3) (c := k1c3) (by decide +kernel) rfl rfl rfl (by decide +kernel)
def codes1 : List Jvm.Cond := [Jvm.Cond.code x code maxLocals ret, Jvm.Cond.code ({ cls := "com/example/backtrail/backtrail/core/GraphMergeMergeFromPinLaw", name := "build", desc := "(IJJJJJ)[J" } : Jvm.MethodName) method_3_code (11 : Nat) (Option.some (Jvm.ClassFile.FieldType.array Jvm.ClassFile.FieldType.long)), Jvm.Cond.code ({ cls := "com/example/backtrail/backtrail/core/GraphMerge", name := "mergeFrom", desc := "([J)I" } : Jvm.MethodName) prog_13_method_2_code (4 : Nat) (Option.some Jvm.ClassFile.FieldType.int), Jvm.Cond.code ({ cls := "com/example/backtrail/backtrail/core/GraphMergeMergeFromPinLaw", name := "holds", desc := "([J[JIII)Z" } : Jvm.MethodName) method_5_code (5 : Nat) (Option.some Jvm.ClassFile.FieldType.boolean), Jvm.Cond.code ({ cls := "com/example/backtrail/backtrail/core/GraphMergeMergeFromPinLaw", name := "step", desc := "([J[JI)Z" } : Jvm.MethodName) method_4_code (3 : Nat) (Option.some Jvm.ClassFile.FieldType.boolean)]
set_option maxRecDepth 65536 in
theorem codes_eq : words1.filter isCode = codes1 := rfl
theorem w_codes : ∀ c ∈ words1.filter isCode, c.before args0 about1 = true := by
  rw [codes_eq]
  intro c hc
  simp only [codes1, List.mem_cons, List.not_mem_nil, or_false] at hc
  rcases hc with rfl | rfl | rfl | rfl | rfl
  · exact w_c0
  · exact w_c1
  · exact w_c2
  · exact w_c3
  · exact w_c4
set_option maxRecDepth 65536 in
theorem w_t1 : words1.all (fun c => isCode c || c.before args0 about1) = true := by decide +kernel
theorem w_tables : (allAtoms (Jvm.Cond.code x code maxLocals ret :: tables_1)).before args0 about1 = true := by
  rw [allAtoms_all]
  show words1.all (fun c => c.before args0 about1) = true
  refine all_split ?_ w_codes
  rw [w_t1]
set_option maxRecDepth 65536 in
theorem w_case : (Jvm.Cond.and given_1 narrow_1).before args0 about1 = true := by decide +kernel
theorem w_applies : (headSpec (Jvm.Cond.code x code maxLocals ret :: tables_1) room_1).applies x e0.platform about1 = true :=
  (Spec.applies_iff w_frames).mpr ⟨w_running, w_runnable, w_alone, w_named, w_hears, w_ripe, w_room, w_tables⟩
theorem atStart : AtStart classFile x code maxLocals ret World_1 tables_1 room_1 Calls_1 rest_1 Pre_1 launch0 p0 e0 about1 theMethod args0 below0 :=
  ⟨lists_1, trivial, launch0.admits_env _ _ _, launch0.least_env, fairChoices_fair.cas, fairChoices_fair.clock, w_frames, w_args, w_heap, w_applies, trivial, trivial, w_case⟩
end start1
theorem witness_1 : WitnessClaimed_1 := ⟨start1.p0, start1.e0, start1.about1, start1.theMethod, start1.args0, start1.below0, start1.atStart⟩
end Jvm.Pilot.@@N@@
