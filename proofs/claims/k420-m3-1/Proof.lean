import JvmDerived
import JvmDerived.Pilot.@@N@@Statement
import JvmDerived.Pilot.@@N@@Code
set_option linter.unusedVariables false
set_option linter.unusedSimpArgs false
@@BLOCK:NumsL.lean.txt@@
namespace Jvm.RoadKit
open Sem ClassFile Op Lib Jvm.Stand Jvm.Free Jvm.LawKit
section New
variable {p : Program} {l : Launch} {e : Env} {R : Room} {s : State} {m : MethodId} {args : Array Value} {below : List Frame} {meth : Method} {c : Code} {T : State} {locs : List Loc} {cells slots : Nat}
theorem retI (X : Stand p l e R s m args below meth c T locs cells slots) (hx : p.tables.exec = Jvm.exec) {pc : Nat} {Ls : Array Slot} {z : Int32} {rest : List Value} (hret : meth.sig.returnType = some .int) (hd : decode c.code pc = .ok (.ireturn, 1)) {fs : List Frame}
    (hl : ∀ (f : JFrame) (acts : List Action), f.method = m → f.locked = none → f.entered = [] → (doReturn e (T.setTop f) acts (some (.int z))).1 = T.setFrames fs) : Steps p.tables e below (T.setTop (mkF m pc Ls (.int z :: rest))) (T.setFrames fs) := by
  have hm' : T.vm.method? m = some meth := X.method'
  have hn : narrow .int (.int z) = .int z := rfl
  show Steps p.tables e below (T.setTop { method := m, pc := pc, locals := Ls, stack := _ :: rest, locked := none }) _
  jvm_step X.here [X.here.top, hx, hd, hm', hret, hn]
  first | (intro acts; rw [hl _ acts rfl rfl rfl]) | rw [hl _ _ rfl rfl rfl]
  exact Steps.refl _
/-- the run from A comes to a return of which F says the value, the heap and the written places -/
def own_Goes (p : Program) (e : Env) (below : List Frame) (s : State) (F : Option Value → Heap → List Loc → Prop) (k n : Nat) (A : State) : Prop :=
  ∃ s₂ o, Steps p.tables e below A s₂ ∧ s₂.status = .running ∧ Ended s₂ below o ∧ ∃ v L, o = .returned v ∧ F v s₂.heap L ∧ FrameEnd s o s₂ L k n
variable {F : Option Value → Heap → List Loc → Prop} {k n : Nat}
theorem own_Goes.step {A B : State} (h : ∀ t, Steps p.tables e below B t → Steps p.tables e below A t) (g : own_Goes p e below s F k n B) : own_Goes p e below s F k n A := by
  obtain ⟨s₂, o, h1, h2⟩ := g
  exact ⟨s₂, o, h _ h1, h2⟩
theorem own_endI (X : Stand p l e R s m args below meth c T locs cells slots) (hx : p.tables.exec = Jvm.exec) (hlk : meth.locks = false) {pc : Nat} {Ls : Array Slot} {z : Int32} {rest : List Value} (hret : meth.sig.returnType = some .int) (hd : decode c.code pc = .ok (.ireturn, 1)) (hF : F (some (.int z)) T.heap locs) (hk : cells ≤ k) (hn : slots ≤ n) :
    own_Goes p e below s F k n (T.setTop (mkF m pc Ls (.int z :: rest))) := by
  obtain ⟨fs, hr, hrun, hended, hW, hsame⟩ := X.leave (v := some (.int z)) (fun h => by rw [hret] at h; cases h) hlk
  exact ⟨_, _, retI X hx hret hd hr, hrun, hended, _, _, rfl, hF, ⟨_, rfl⟩, hW, hsame.mono hk hn⟩
theorem own_endN (X : Stand p l e R s m args below meth c T locs cells slots) (hx : p.tables.exec = Jvm.exec) (hlk : meth.locks = false) {pc : Nat} {Ls : Array Slot} {z : Int32} {t : FieldType} {rest : List Value} (hret : meth.sig.returnType = some t) (ht : t = .boolean ∨ t = .byte ∨ t = .char ∨ t = .short) (hd : decode c.code pc = .ok (.ireturn, 1)) (hF : F (some (.int (nar t z))) T.heap locs) (hk : cells ≤ k) (hn : slots ≤ n) :
    own_Goes p e below s F k n (T.setTop (mkF m pc Ls (.int z :: rest))) := by
  obtain ⟨fs, hr, hrun, hended, hW, hsame⟩ := X.leave (v := some (.int (nar t z))) (fun h => by rw [hret] at h; cases h) hlk
  exact ⟨_, _, retN X hx hret ht hd hr, hrun, hended, _, _, rfl, hF, ⟨_, rfl⟩, hW, hsame.mono hk hn⟩
theorem own_endJ (X : Stand p l e R s m args below meth c T locs cells slots) (hx : p.tables.exec = Jvm.exec) (hlk : meth.locks = false) {pc : Nat} {Ls : Array Slot} {z : Int64} (hret : meth.sig.returnType = some .long) (hd : decode c.code pc = .ok (.lreturn, 1)) (hF : F (some (.long z)) T.heap locs) (hk : cells ≤ k) (hn : slots ≤ n) :
    own_Goes p e below s F k n (T.setTop (mkF m pc Ls [.long z])) := by
  obtain ⟨fs, hr, hrun, hended, hW, hsame⟩ := X.leave (v := some (.long z)) (fun h => by rw [hret] at h; cases h) hlk
  exact ⟨_, _, X.lreturnOut hx hret hd hr, hrun, hended, _, _, rfl, hF, ⟨_, rfl⟩, hW, hsame.mono hk hn⟩
theorem own_endV (X : Stand p l e R s m args below meth c T locs cells slots) (hx : p.tables.exec = Jvm.exec) (hlk : meth.locks = false) {pc : Nat} {Ls : Array Slot} (hret : meth.sig.returnType = none) (hd : decode c.code pc = .ok (.return_, 1)) (hF : F none T.heap locs) (hk : cells ≤ k) (hn : slots ≤ n) :
    own_Goes p e below s F k n (T.setTop (mkF m pc Ls [])) := by
  obtain ⟨fs, hr, hrun, hended, hW, hsame⟩ := X.leave (v := none) (fun _ => rfl) hlk
  exact ⟨_, _, X.returnOut hx hret hd hr, hrun, hended, _, _, rfl, hF, ⟨_, rfl⟩, hW, hsame.mono hk hn⟩
theorem own_endA (X : Stand p l e R s m args below meth c T locs cells slots) (hx : p.tables.exec = Jvm.exec) (hlk : meth.locks = false) {pc : Nat} {Ls : Array Slot} {w : Value} {t : FieldType} (hw : w.isRef = true) (hret : meth.sig.returnType = some t) (ht : t.isReference = true) (hd : decode c.code pc = .ok (.areturn, 1)) (hF : F (some w) T.heap locs) (hk : cells ≤ k) (hn : slots ≤ n) :
    own_Goes p e below s F k n (T.setTop (mkF m pc Ls [w])) := by
  obtain ⟨fs, hr, hrun, hended, hW, hsame⟩ := X.leave (v := some w) (fun h => by rw [hret] at h; cases h) hlk
  exact ⟨_, _, X.areturnOut hx hw hret ht hd hr, hrun, hended, _, _, rfl, hF, ⟨_, rfl⟩, hW, hsame.mono hk hn⟩
theorem own_lrem (x y : Int64) : x - x / y * y = x % y := by
  refine Int64.toInt_inj.mp ?_
  rw [Jvm.Kit.i64_rem, Int64.toInt_mod]
theorem own_lremM {g : JFrame} {target : State} (X : Stand p l e R s m args below meth c T locs cells slots) (hx : p.tables.exec = Jvm.exec) (hg : g.method = m) {x y : Int64} {rest : List Value} (hd : decode c.code g.pc = .ok (.lrem, 1)) (hs : g.stack = .long y :: .long x :: rest) (hy : y ≠ 0)
    (hr : Steps p.tables e below (T.setTop { g with pc := g.pc + 1, stack := .long (x % y) :: rest }) target) : Steps p.tables e below (T.setTop g) target :=
  XT.lrem X.here hx hg hd hs hy (by rw [own_lrem]; exact hr)
/-- the three calls, by a contract in this family, carried forward -/
theorem own_stat {Z : State} {a0 : Array Value} {h : Heap} (X : Stand p l e R s m args below meth c T locs cells slots) (hx : p.tables.exec = Jvm.exec) (hZ : Z.Warmed39 s.vm) (eT : T.heap = h) {own : String} {index : Nat} {y : MethodName} {bytes : ByteArray} {maxL : Nat} {ret : Option FieldType} {rm : Room} {W : Nat} {argsL rest : List Value} {Q : Option Value → Heap → List Loc → Prop}
    (hown : s.vm.findClass own = some m.cls) (wl : (Cond.methodLink own index y).before a0 Z = true) (wst : (Cond.static y).before a0 Z = true) (wi : (Cond.initialized y.cls).before a0 Z = true) (wc : (Cond.code y bytes maxL ret).before a0 Z = true) (hy : y.cls ≠ "java/lang/invoke/MethodHandle" ∧ y.cls ≠ "java/lang/invoke/VarHandle")
    (hM : MetFree l y (head1 [Cond.code y bytes maxL ret] rm) (fun a U => a = argsL.toArray ∧ Z.Warmed39 U.vm ∧ U.heap = h) (fun _ _ _ _ _ => True) (fun _ U o U' => ∃ w L, o = .returned w ∧ Q w U'.heap L ∧ FrameEnd U o U' L rm.cells rm.slots))
    (hf : rm.frames + 1 ≤ R.frames) (hl : W + (maxL + 11) + rm.locals ≤ R.locals) (hcells : cells + rm.cells ≤ R.cells) (hslots : slots + rm.slots ≤ R.slots)
    {g : JFrame} (hg : g.method = m) (hsize : g.locals.size = c.maxLocals) (hlen : ∀ sig, parseMethodDescriptor y.desc = some sig → argsL.length = sig.parameters.length) (hstack : g.stack = argsL.reverse ++ rest) (hW : 2 * g.monitorRoom + (rest.map fun v => v.category).sum ≤ W) (hdg : decode c.code g.pc = .ok (.invokestatic index, 3)) :
    ∃ w T' L, Q w T'.heap L ∧ Stand p l e R s m args below meth c T' (locs ++ L) (cells + rm.cells) (slots + rm.slots) ∧ ∀ t, Steps p.tables e below (T'.setTop { g with pc := g.pc + 3, stack := w.toList ++ rest }) t → Steps p.tables e below (T.setTop g) t := by
  have hB := backOf (R := R) (p := p) (e := e) (below := below) (args := args) (len := 3) (W := W) (Q := Q) hM hZ wc wi hf hl
  obtain ⟨w, vm₁, ⟨U, Lc, k1, n1⟩, -, X', ⟨L, hQ, hL, hC, hS⟩, st⟩ := Jvm.LawKit.callS X hx (y := y) hown (mvT hZ wl) (mvT hZ wst) (mvT hZ wi) (mvT hZ wc) hy hB (g := g) hg hsize hlen hstack hW hdg (fun _ _ => ⟨rfl, eT, hcells, hslots⟩)
  dsimp only [Pt.U, Pt.locs, Pt.cells, Pt.slots] at X' hQ hL hC hS st
  subst hL hC hS
  exact ⟨w, U, L, hQ, X', st⟩
theorem own_spec {Z : State} {a0 : Array Value} {h : Heap} (X : Stand p l e R s m args below meth c T locs cells slots) (hx : p.tables.exec = Jvm.exec) (hZ : Z.Warmed39 s.vm) (eT : T.heap = h) {own : String} {index : Nat} {y : MethodName} {bytes : ByteArray} {maxL : Nat} {rm : Room} {W : Nat} {a : Addr} {argsL rest : List Value} {Q : Option Value → Heap → List Loc → Prop}
    (hy1 : y.name = "<init>") (hown : s.vm.findClass own = some m.cls) (wl : (Cond.methodLink own index y).before a0 Z = true) (wst : (Cond.instanceMethod y).before a0 Z = true) (wi : (Cond.initialized y.cls).before a0 Z = true) (wc : (Cond.code y bytes maxL none).before a0 Z = true) (hy : y.cls ≠ "java/lang/invoke/MethodHandle" ∧ y.cls ≠ "java/lang/invoke/VarHandle")
    (hM : MetFree l y (head1 [Cond.code y bytes maxL none] rm) (fun b U => b = (.ref a :: argsL).toArray ∧ Z.Warmed39 U.vm ∧ U.heap = h) (fun _ _ _ _ _ => True) (fun _ U o U' => ∃ w L, o = .returned w ∧ Q w U'.heap L ∧ FrameEnd U o U' L rm.cells rm.slots))
    (hf : rm.frames + 1 ≤ R.frames) (hl : W + (maxL + 11) + rm.locals ≤ R.locals) (hcells : cells + rm.cells ≤ R.cells) (hslots : slots + rm.slots ≤ R.slots)
    {g : JFrame} (hg : g.method = m) (hsize : g.locals.size = c.maxLocals) (hlen : ∀ sig, parseMethodDescriptor y.desc = some sig → argsL.length = sig.parameters.length) (hstack : g.stack = argsL.reverse ++ .ref a :: rest) (hW : 2 * g.monitorRoom + (rest.map fun v => v.category).sum ≤ W) (hdg : decode c.code g.pc = .ok (.invokespecial index, 3)) :
    ∃ w T' L, Q w T'.heap L ∧ Stand p l e R s m args below meth c T' (locs ++ L) (cells + rm.cells) (slots + rm.slots) ∧ ∀ t, Steps p.tables e below (T'.setTop { g with pc := g.pc + 3, stack := w.toList ++ rest }) t → Steps p.tables e below (T.setTop g) t := by
  have hB := backOf (R := R) (p := p) (e := e) (below := below) (args := args) (len := 3) (W := W) (Q := Q) hM hZ wc wi hf hl
  obtain ⟨w, vm₁, ⟨U, Lc, k1, n1⟩, -, X', ⟨L, hQ, hL, hC, hS⟩, st⟩ := X.specialBack hx (y := y) hy1 hown (mvT hZ wl) (mvT hZ wst) (mvT hZ wc) hy hB (g := g) hg hsize (Steps.refl _) (a := a) hlen hstack hW hdg (fun _ _ => ⟨rfl, eT, hcells, hslots⟩)
  dsimp only [Pt.U, Pt.locs, Pt.cells, Pt.slots] at X' hQ hL hC hS st
  subst hL hC hS
  exact ⟨w, U, L, hQ, X', fun t k => st.trans k⟩
theorem own_virt {Z : State} {a0 : Array Value} {h : Heap} (X : Stand p l e R s m args below meth c T locs cells slots) (hx : p.tables.exec = Jvm.exec) (hZ : Z.Warmed39 s.vm) (eT : T.heap = h) {own C : String} {index : Nat} {y : MethodName} {bytes : ByteArray} {maxL : Nat} {ret : Option FieldType} {rm : Room} {W : Nat} {a : Addr} {argsL rest : List Value} {Q : Option Value → Heap → List Loc → Prop}
    (E : Exa Z h a C) (hown : s.vm.findClass own = some m.cls) (wl : (Cond.methodLink own index y).before a0 Z = true) (wd : (Cond.declares y).before a0 Z = true) (ws : (Cond.selects C y y).before a0 Z = true) (wst : (Cond.instanceMethod y).before a0 Z = true) (wi : (Cond.initialized y.cls).before a0 Z = true) (wc : (Cond.code y bytes maxL ret).before a0 Z = true) (hy : y.cls ≠ "java/lang/invoke/MethodHandle" ∧ y.cls ≠ "java/lang/invoke/VarHandle")
    (hM : MetFree l y (head1 [Cond.code y bytes maxL ret] rm) (fun b U => b = (.ref a :: argsL).toArray ∧ Z.Warmed39 U.vm ∧ U.heap = h) (fun _ _ _ _ _ => True) (fun _ U o U' => ∃ w L, o = .returned w ∧ Q w U'.heap L ∧ FrameEnd U o U' L rm.cells rm.slots))
    (hf : rm.frames + 1 ≤ R.frames) (hl : W + (maxL + 11) + rm.locals ≤ R.locals) (hcells : cells + rm.cells ≤ R.cells) (hslots : slots + rm.slots ≤ R.slots)
    {g : JFrame} (hg : g.method = m) (hsize : g.locals.size = c.maxLocals) (hlen : ∀ sig, parseMethodDescriptor y.desc = some sig → argsL.length = sig.parameters.length) (hstack : g.stack = argsL.reverse ++ .ref a :: rest) (hW : 2 * g.monitorRoom + (rest.map fun v => v.category).sum ≤ W) (hdg : decode c.code g.pc = .ok (.invokevirtual index, 3)) :
    ∃ w T' L, Q w T'.heap L ∧ Stand p l e R s m args below meth c T' (locs ++ L) (cells + rm.cells) (slots + rm.slots) ∧ ∀ t, Steps p.tables e below (T'.setTop { g with pc := g.pc + 3, stack := w.toList ++ rest }) t → Steps p.tables e below (T.setTop g) t := by
  have hB := backOf (R := R) (p := p) (e := e) (below := below) (args := args) (len := 3) (W := W) (Q := Q) hM hZ wc wi hf hl
  obtain ⟨cq, kq, qa, qb, qc⟩ := isOf hZ eT E
  obtain ⟨w, vm₁, ⟨U, Lc, k1, n1⟩, -, X', ⟨L, hQ, hL, hC, hS⟩, st⟩ := X.virtualBack hx (y := y) (z := y) hown (mvT hZ wl) (mvT hZ wd) (notFace_of_selects (args := #[]) (mvT hZ ws)) (mvT hZ ws) (mvT hZ wst) hy hB qa qc (g := g) hg hsize (Steps.refl _) hlen hstack hW hdg (fun _ _ => ⟨rfl, eT, hcells, hslots⟩)
  dsimp only [Pt.U, Pt.locs, Pt.cells, Pt.slots] at X' hQ hL hC hS st
  subst hL hC hS
  exact ⟨w, U, L, hQ, X', fun t k => st.trans k⟩
/-- a call that left nothing behind -/
theorem own_clean {h : Heap} {w v : Option Value} {T' : State} {L : List Loc} {k0 n0 : Nat} (q : w = v ∧ L = [] ∧ T'.heap = h) (X : Stand p l e R s m args below meth c T' (locs ++ L) (cells + k0) (slots + n0)) (hk : k0 = 0) (hn : n0 = 0) : T'.heap = h ∧ Stand p l e R s m args below meth c T' locs cells slots := by
  obtain ⟨-, rfl, hh⟩ := q
  subst hk hn
  rw [List.append_nil] at X
  exact ⟨hh, X⟩
theorem own_nin {a b : Addr} (q : b ≠ a) : b ∉ [a] := fun h => q (List.mem_singleton.mp h)
theorem own_kt {h0 : Heap} {ws : List Addr} {a : Addr} (q : a ∈ ws ∨ h0.size ≤ a) : ∀ x ∈ [a], x ∈ ws ∨ h0.size ≤ x := fun x hx => by
  cases List.mem_singleton.mp hx; exact q
end New
end Jvm.RoadKit
namespace Jvm.RoadKit
open Sem ClassFile Op Lib Jvm.Stand Jvm.Free Jvm.LawKit
section Arrays
variable {p : Program} {l : Launch} {e : Env} {R : Room} {s : State} {m : MethodId} {args : Array Value} {below : List Frame} {meth : Method} {c : Code} {T : State} {locs : List Loc} {cells slots : Nat} {Z : State} {a0 : Array Value} {h h' : Heap} {a b : Addr} {ty : FieldType} {n : Nat} {f : Nat → Value}
/-- an array of n places; place i holds f i -/
def own_Ar (Z : State) (h : Heap) (a : Addr) (ty : FieldType) (n : Nat) (f : Nat → Value) : Prop := ∃ c : Cell, Arr Z h a c ty ∧ c.slots.size = n ∧ ∀ i, i < n → c.slots[i]? = some (f i)
theorem own_Ar.lt (F : own_Ar Z h a ty n f) : a < h.size := by obtain ⟨c, A, -⟩ := F; exact A.lt
theorem own_Ar.ext (F : own_Ar Z h a ty n f) (E : Ext h h') : own_Ar Z h' a ty n f := by obtain ⟨c, A, r⟩ := F; exact ⟨c, A.ext E, r⟩
theorem own_Ar.keep {ws : List Addr} (F : own_Ar Z h a ty n f) (K : Keep h h' ws) (q : a ∉ ws) : own_Ar Z h' a ty n f := by obtain ⟨c, A, r⟩ := F; exact ⟨c, ⟨K.2.1 a c A.1 q, A.2⟩, r⟩
theorem own_Ar.other {sl : Nat} {v : Value} (F : own_Ar Z h b ty n f) (W : Wr h h' a sl v) (q : b ≠ a) : own_Ar Z h' b ty n f := by obtain ⟨c, A, r⟩ := F; exact ⟨c, A.other W q, r⟩
theorem own_Ar.set {i : Nat} {v : Value} (F : own_Ar Z h a ty n f) (W : Wr h h' a i v) : own_Ar Z h' a ty n (fun j => if j = i then v else f j) := by
  obtain ⟨c, A, S, H⟩ := F
  refine ⟨c.setSlot i v, A.same W, by rw [sz_set]; exact S, fun j hj => ?_⟩
  show (c.slots.setIfInBounds i v)[j]? = some (if j = i then v else f j)
  rw [Array.getElem?_setIfInBounds]
  by_cases q : i = j
  · subst q
    rw [if_pos rfl, if_pos rfl, if_pos (by rw [S]; exact hj)]
  · rw [if_neg q, if_neg (Ne.symm q)]
    exact H j hj
theorem own_Ar.new {k : ClassId} {z : Int32} (A : Arr Z h a (newA k ty z) ty) : own_Ar Z h a ty z.toNatClampNeg (fun _ => defaultValue ty) := ⟨_, A, sz_new _ _ _, fun i hi => by simp [newA, hi]⟩
theorem own_Ar.congr {f' : Nat → Value} (F : own_Ar Z h a ty n f) (q : ∀ i, i < n → f i = f' i) : own_Ar Z h a ty n f' := by
  obtain ⟨c, A, S, H⟩ := F
  exact ⟨c, A, S, fun i hi => by rw [← q i hi]; exact H i hi⟩
theorem own_idx {j : Int32} {i : Nat} (hj : j.toInt = i) : j.toNatClampNeg = i := by
  show j.toInt.toNat = i
  omega
theorem own_in {j : Int32} {i n : Nat} (hj : j.toInt = i) (hi : i < n) : ¬ (j < 0 ∨ n ≤ j.toNatClampNeg) := by
  rw [own_idx hj, Int32.lt_iff_toInt_lt, Int32.toInt_zero]
  omega
theorem own_alen (X : Stand p l e R s m args below meth c T locs cells slots) (hx : p.tables.exec = Jvm.exec) (hZ : Z.Warmed39 s.vm) (eT : T.heap = h) (F : own_Ar Z h a ty n f) {z : Int32} (hz : n.toInt32 = z)
    {g : JFrame} (hg : g.method = m) {rest : List Value} (hs : g.stack = .ref a :: rest) (hd : decode c.code g.pc = .ok (.arraylength, 1)) : ∀ t, Steps p.tables e below (T.setTop { g with pc := g.pc + 1, stack := .int z :: rest }) t → Steps p.tables e below (T.setTop g) t := by
  obtain ⟨cl, A, S, H⟩ := F
  subst hz
  intro t k
  refine X.arraylength hx (cell := cl) (by rw [eT]; exact A.1) (State.isArrayOf_alike hZ.alike A.2.1) hg hs hd t ?_
  rw [S]
  exact k
theorem own_iald (X : Stand p l e R s m args below meth c T locs cells slots) (hx : p.tables.exec = Jvm.exec) (hZ : Z.Warmed39 s.vm) (eT : T.heap = h) (F : own_Ar Z h a .int n f) {j : Int32} {i : Nat} {v : Value} (hj : j.toInt = i) (hi : i < n) (hv : f i = v)
    {g : JFrame} (hg : g.method = m) {rest : List Value} (hs : g.stack = .int j :: .ref a :: rest) (hd : decode c.code g.pc = .ok (.iaload, 1)) : ∀ t, Steps p.tables e below (T.setTop { g with pc := g.pc + 1, stack := v :: rest }) t → Steps p.tables e below (T.setTop g) t := by
  obtain ⟨cl, A, S, H⟩ := F
  subst hv
  exact X.iaload hx (by rw [eT]; exact A.1) (State.isArrayOf_alike hZ.alike A.2.1) A.2.2 (by rw [S]; exact own_in hj hi) (by rw [own_idx hj]; exact H i hi) hg hs hd
theorem own_lald (X : Stand p l e R s m args below meth c T locs cells slots) (hx : p.tables.exec = Jvm.exec) (hZ : Z.Warmed39 s.vm) (eT : T.heap = h) (F : own_Ar Z h a .long n f) {j : Int32} {i : Nat} {v : Value} (hj : j.toInt = i) (hi : i < n) (hv : f i = v)
    {g : JFrame} (hg : g.method = m) {rest : List Value} (hs : g.stack = .int j :: .ref a :: rest) (hd : decode c.code g.pc = .ok (.laload, 1)) : ∀ t, Steps p.tables e below (T.setTop { g with pc := g.pc + 1, stack := v :: rest }) t → Steps p.tables e below (T.setTop g) t := by
  obtain ⟨cl, A, S, H⟩ := F
  subst hv
  exact X.laload hx (by rw [eT]; exact A.1) (State.isArrayOf_alike hZ.alike A.2.1) A.2.2 (by rw [S]; exact own_in hj hi) (by rw [own_idx hj]; exact H i hi) hg hs hd
theorem own_bald (X : Stand p l e R s m args below meth c T locs cells slots) (hx : p.tables.exec = Jvm.exec) (hZ : Z.Warmed39 s.vm) (eT : T.heap = h) (F : own_Ar Z h a .byte n f) {j : Int32} {i : Nat} {v : Value} (hj : j.toInt = i) (hi : i < n) (hv : f i = v)
    {g : JFrame} (hg : g.method = m) {rest : List Value} (hs : g.stack = .int j :: .ref a :: rest) (hd : decode c.code g.pc = .ok (.baload, 1)) : ∀ t, Steps p.tables e below (T.setTop { g with pc := g.pc + 1, stack := v :: rest }) t → Steps p.tables e below (T.setTop g) t := by
  obtain ⟨cl, A, S, H⟩ := F
  subst hv
  exact X.baloadBytes hx (by rw [eT]; exact A.1) (State.isArrayOf_alike hZ.alike A.2.1) A.2.2 (by rw [S]; exact own_in hj hi) (by rw [own_idx hj]; exact H i hi) hg hs hd
theorem own_zald (X : Stand p l e R s m args below meth c T locs cells slots) (hx : p.tables.exec = Jvm.exec) (hZ : Z.Warmed39 s.vm) (eT : T.heap = h) (F : own_Ar Z h a .boolean n f) {j : Int32} {i : Nat} {v : Value} (hj : j.toInt = i) (hi : i < n) (hv : f i = v)
    {g : JFrame} (hg : g.method = m) {rest : List Value} (hs : g.stack = .int j :: .ref a :: rest) (hd : decode c.code g.pc = .ok (.baload, 1)) : ∀ t, Steps p.tables e below (T.setTop { g with pc := g.pc + 1, stack := v :: rest }) t → Steps p.tables e below (T.setTop g) t := by
  obtain ⟨cl, A, S, H⟩ := F
  subst hv
  exact X.baloadBooleans hx (by rw [eT]; exact A.1) (State.isArrayOf_alike hZ.alike A.2.1) A.2.2 (by rw [S]; exact own_in hj hi) (by rw [own_idx hj]; exact H i hi) hg hs hd
theorem own_iast (X : Stand p l e R s m args below meth c T locs cells slots) (hx : p.tables.exec = Jvm.exec) (hZ : Z.Warmed39 s.vm) (eT : T.heap = h) (F : own_Ar Z h a .int n f) {j x : Int32} {i : Nat} (hj : j.toInt = i) (hi : i < n)
    {g : JFrame} (hg : g.method = m) {rest : List Value} (hs : g.stack = .int x :: .int j :: .ref a :: rest) (hd : decode c.code g.pc = .ok (.iastore, 1)) :
    ∃ T' h', Stand p l e R s m args below meth c T' (locs ++ [⟨a, i⟩]) cells slots ∧ T'.heap = h' ∧ Wr h h' a i (.int x) ∧ ∀ t, Steps p.tables e below (T'.setTop { g with pc := g.pc + 1, stack := rest }) t → Steps p.tables e below (T.setTop g) t := by
  obtain ⟨cl, A, S, H⟩ := F
  have r := stI X hx hZ eT A (j := j) (by rw [S]; exact own_in hj hi) hg hs hd
  rw [own_idx hj] at r
  exact r
theorem own_last (X : Stand p l e R s m args below meth c T locs cells slots) (hx : p.tables.exec = Jvm.exec) (hZ : Z.Warmed39 s.vm) (eT : T.heap = h) (F : own_Ar Z h a .long n f) {j : Int32} {x : Int64} {i : Nat} (hj : j.toInt = i) (hi : i < n)
    {g : JFrame} (hg : g.method = m) {rest : List Value} (hs : g.stack = .long x :: .int j :: .ref a :: rest) (hd : decode c.code g.pc = .ok (.lastore, 1)) :
    ∃ T' h', Stand p l e R s m args below meth c T' (locs ++ [⟨a, i⟩]) cells slots ∧ T'.heap = h' ∧ Wr h h' a i (.long x) ∧ ∀ t, Steps p.tables e below (T'.setTop { g with pc := g.pc + 1, stack := rest }) t → Steps p.tables e below (T.setTop g) t := by
  obtain ⟨cl, A, S, H⟩ := F
  have r := stJ X hx hZ eT A (j := j) (by rw [S]; exact own_in hj hi) hg hs hd
  rw [own_idx hj] at r
  exact r
theorem own_bast (X : Stand p l e R s m args below meth c T locs cells slots) (hx : p.tables.exec = Jvm.exec) (hZ : Z.Warmed39 s.vm) (eT : T.heap = h) (F : own_Ar Z h a .byte n f) {j x : Int32} {i : Nat} (hj : j.toInt = i) (hi : i < n)
    {g : JFrame} (hg : g.method = m) {rest : List Value} (hs : g.stack = .int x :: .int j :: .ref a :: rest) (hd : decode c.code g.pc = .ok (.bastore, 1)) :
    ∃ T' h', Stand p l e R s m args below meth c T' (locs ++ [⟨a, i⟩]) cells slots ∧ T'.heap = h' ∧ Wr h h' a i (.int (nar .byte x)) ∧ ∀ t, Steps p.tables e below (T'.setTop { g with pc := g.pc + 1, stack := rest }) t → Steps p.tables e below (T.setTop g) t := by
  obtain ⟨cl, A, S, H⟩ := F
  have r := stB X hx hZ eT A (j := j) (x := x) (by rw [S]; exact own_in hj hi) hg hs hd
  rw [own_idx hj] at r
  exact r
theorem own_zast (X : Stand p l e R s m args below meth c T locs cells slots) (hx : p.tables.exec = Jvm.exec) (hZ : Z.Warmed39 s.vm) (eT : T.heap = h) (F : own_Ar Z h a .boolean n f) {j x : Int32} {i : Nat} (hj : j.toInt = i) (hi : i < n)
    {g : JFrame} (hg : g.method = m) {rest : List Value} (hs : g.stack = .int x :: .int j :: .ref a :: rest) (hd : decode c.code g.pc = .ok (.bastore, 1)) :
    ∃ T' h', Stand p l e R s m args below meth c T' (locs ++ [⟨a, i⟩]) cells slots ∧ T'.heap = h' ∧ Wr h h' a i (.int (nar .boolean x)) ∧ ∀ t, Steps p.tables e below (T'.setTop { g with pc := g.pc + 1, stack := rest }) t → Steps p.tables e below (T.setTop g) t := by
  obtain ⟨cl, A, S, H⟩ := F
  have r := stZ X hx hZ eT A (j := j) (x := x) (by rw [S]; exact own_in hj hi) hg hs hd
  rw [own_idx hj] at r
  exact r
end Arrays
end Jvm.RoadKit
namespace Jvm.RoadKit
open Sem ClassFile Op Lib Jvm.Stand Jvm.Free Jvm.LawKit
section ArraysX
variable {p : Program} {l : Launch} {e : Env} {R : Room} {s : State} {m : MethodId} {args : Array Value} {below : List Frame} {meth : Method} {c : Code} {T : State} {locs : List Loc} {cells slots : Nat} {Z : State} {a0 : Array Value} {h h' : Heap} {a b : Addr} {ty : FieldType} {n : Nat} {f : Nat → Value}
/-- an int array of n places of which nothing else is said -/
def own_AI (Z : State) (h : Heap) (a : Addr) (n : Nat) : Prop := ∃ g : Nat → Int32, own_Ar Z h a .int n (fun i => .int (g i))
theorem own_AI.lt (F : own_AI Z h a n) : a < h.size := by obtain ⟨g, F⟩ := F; exact F.lt
theorem own_AI.ext (F : own_AI Z h a n) (E : Ext h h') : own_AI Z h' a n := by obtain ⟨g, F⟩ := F; exact ⟨g, F.ext E⟩
theorem own_AI.keep {ws : List Addr} (F : own_AI Z h a n) (K : Keep h h' ws) (q : a ∉ ws) : own_AI Z h' a n := by obtain ⟨g, F⟩ := F; exact ⟨g, F.keep K q⟩
theorem own_AI.other {sl : Nat} {v : Value} (F : own_AI Z h b n) (W : Wr h h' a sl v) (q : b ≠ a) : own_AI Z h' b n := by obtain ⟨g, F⟩ := F; exact ⟨g, F.other W q⟩
theorem own_AI.set {i : Nat} {v : Int32} (F : own_AI Z h a n) (W : Wr h h' a i (.int v)) : own_AI Z h' a n := by
  obtain ⟨g, F⟩ := F
  exact ⟨fun j => if j = i then v else g j, (F.set W).congr fun j _ => (apply_ite Value.int _ _ _).symm⟩
theorem own_AI.new {k : ClassId} {z : Int32} (A : Arr Z h a (newA k .int z) .int) : own_AI Z h a z.toNatClampNeg := ⟨fun _ => 0, own_Ar.new A⟩
end ArraysX
end Jvm.RoadKit
namespace Jvm.Pilot.@@N@@
open Jvm Jvm.ClassFile Sem Op Lib Jvm.Free Jvm.Stand Jvm.LawKit Jvm.RoadKit Bundle Jvm.Pilot.@@N@@.Jvm.D
/-! plain facts on ints and longs -/
theorem own_char16 (u : UInt16) : (u.toUInt32.toInt32).toInt = u.toNat := by
  have h := u.toNat_lt
  show BitVec.toInt u.toUInt32.toBitVec = _
  rw [BitVec.toInt_eq_toNat_of_lt (by simp; omega)]
  simp
theorem own_char (y : Int32) : 0 ≤ (y.toUInt32.toUInt16.toUInt32.toInt32).toInt ∧ (y.toUInt32.toUInt16.toUInt32.toInt32).toInt < 65536 := by
  rw [own_char16]
  have h := y.toUInt32.toUInt16.toNat_lt
  omega
theorem own_fin32 {P : Int32 → Prop} (n : Nat) (h : ∀ k : Fin n, P (Int32.ofNat k)) (c : Int32) (h0 : 0 ≤ c.toInt) (h1 : c.toInt < n) : P c := by
  have e : c = Int32.ofNat c.toInt.toNat := by
    apply Int32.toInt_inj.mp
    have hb := c.toInt_lt
    rw [Int32.toInt_ofNat_of_lt (by omega)]
    omega
  rw [e]
  exact h ⟨c.toInt.toNat, by omega⟩
theorem own_lt32 (x y : Int32) : (x < y) ↔ x.toInt < y.toInt := Int32.lt_iff_toInt_lt
theorem own_eq32 (x y : Int32) : (x = y) ↔ x.toInt = y.toInt := Int32.toInt_inj.symm
theorem own_lt64 (x y : Int64) : (x < y) ↔ x.toInt < y.toInt := Int64.lt_iff_toInt_lt
theorem own_eq64 (x y : Int64) : (x = y) ↔ x.toInt = y.toInt := Int64.toInt_inj.symm

def own_nsl (f : Nat → Int32) : Nat → Int32
  | 0 => 0
  | k + 1 => if f k = (47 : Int32) then Int32.ofNat (k + 1) else if f k = (35 : Int32) then Int32.ofNat (k + 1) else if f k = (58 : Int32) then Int32.ofNat (k + 1) else own_nsl f k
theorem own_nsl_succ (f : Nat → Int32) (k : Nat) : own_nsl f (k + 1) = if f k = (47 : Int32) then Int32.ofNat (k + 1) else if f k = (35 : Int32) then Int32.ofNat (k + 1) else if f k = (58 : Int32) then Int32.ofNat (k + 1) else own_nsl f k := rfl

theorem own_toI {n : Nat} (h : n < 2147483648) : (Int32.ofNat n).toInt = n := Int32.toInt_ofNat_of_lt h
theorem own_last {n : Nat} (h : n < 2147483648) : (Int32.ofNat n - (1 : Int32)).toInt = (n : Int) - 1 := by
  have k1 : (1 : Int32).toInt = 1 := rfl
  have e := own_toI h
  rw [Jvm.Kit.i32_sub (by rw [k1, e]; omega) (by rw [k1, e]; omega), k1, e]
theorem own_dec {i : Int32} {k : Nat} (h : i.toInt = (k : Nat)) : (i + (-1 : Int32)).toInt = (k : Int) - 1 := by
  have k1 : (-1 : Int32).toInt = -1 := rfl
  have b := i.toInt_lt
  rw [Jvm.Kit.i32_add (by rw [k1]; omega) (by rw [k1]; omega), k1, h]; omega
theorem own_succ {i : Int32} {k : Nat} (h : i.toInt = (k : Nat)) : Int32.ofNat (k + 1) = i + (1 : Int32) := by
  have e : i = Int32.ofNat k := by
    have b := i.toInt_lt
    rw [own_eq32, own_toI (by omega), h]
  rw [e]
  exact (Int32.ofNat_succ k).symm
def own_n (x0 : Int32) : Nat := ((x0 &&& (2147483647 : Int32)) % (5 : Int32)).toInt.toNat
theorem own_nb (x0 : Int32) : 0 ≤ ((x0 &&& (2147483647 : Int32)) % (5 : Int32)).toInt ∧ ((x0 &&& (2147483647 : Int32)) % (5 : Int32)).toInt < 5 := by
  have a : (x0 &&& (2147483647 : Int32)).toInt = x0.toInt % 2 ^ 31 := Jvm.Kit.i32_mask x0 _ (k := 31) (by decide) (by decide)
  have b : ((x0 &&& (2147483647 : Int32)) % (5 : Int32)).toInt = (x0 &&& (2147483647 : Int32)).toInt % 5 := Jvm.Kit.i32_rem_nonneg (by omega)
  omega
theorem own_ne (x0 : Int32) : ((x0 &&& (2147483647 : Int32)) % (5 : Int32)).toInt = own_n x0 := by
  have h := own_nb x0
  unfold own_n
  omega
theorem own_n4 (x0 : Int32) : own_n x0 ≤ 4 := by
  have h := own_nb x0
  have e := own_ne x0
  omega
theorem own_nneg (x0 : Int32) : ¬ ((x0 &&& (2147483647 : Int32)) % (5 : Int32)) < 0 := by
  have h := own_nb x0
  rw [own_lt32, Int32.toInt_zero]; omega
theorem own_nin' {x0 a : Int32} {i : Nat} (ha : a.toInt = i) (h : a < ((x0 &&& (2147483647 : Int32)) % (5 : Int32))) : i < own_n x0 := by
  have e := own_ne x0
  rw [own_lt32] at h
  omega
theorem own_nlt {a b n : Int32} (hab : a.toInt ≤ b.toInt) (h : ¬ a < n) : ¬ b < n := by
  rw [own_lt32] at h ⊢; omega
theorem own_ltb {a b n : Int32} (hab : a.toInt < b.toInt) (h : ¬ a < n) : n < b := by
  rw [own_lt32] at h ⊢; omega
theorem own_geb {a b n : Int32} (hab : b.toInt ≤ a.toInt + 1) (h : a < n) : ¬ n < b := by
  rw [own_lt32] at h ⊢; omega

theorem d3_0 : decode method_3_code 0 = .ok (.iload_n 0, 1) := by decide +kernel
theorem d3_1 : decode method_3_code 1 = .ok (.bipush 47, 2) := by decide +kernel
theorem d3_3 : decode method_3_code 3 = .ok (.if_icmp .eq 15, 3) := by decide +kernel
theorem d3_6 : decode method_3_code 6 = .ok (.iload_n 0, 1) := by decide +kernel
theorem d3_7 : decode method_3_code 7 = .ok (.bipush 35, 2) := by decide +kernel
theorem d3_9 : decode method_3_code 9 = .ok (.if_icmp .eq 9, 3) := by decide +kernel
theorem d3_12 : decode method_3_code 12 = .ok (.iload_n 0, 1) := by decide +kernel
theorem d3_13 : decode method_3_code 13 = .ok (.bipush 58, 2) := by decide +kernel
theorem d3_15 : decode method_3_code 15 = .ok (.if_icmp .ne 7, 3) := by decide +kernel
theorem d3_18 : decode method_3_code 18 = .ok (.iconst 1, 1) := by decide +kernel
theorem d3_19 : decode method_3_code 19 = .ok (.goto 4, 3) := by decide +kernel
theorem d3_22 : decode method_3_code 22 = .ok (.iconst 0, 1) := by decide +kernel
theorem d3_23 : decode method_3_code 23 = .ok (.ireturn, 1) := by decide +kernel
theorem pn_3 : plainName "com/example/backtrail/backtrail/core/GraphLayoutNamespaceLengthPinLaw" = true := by first | (simp [plainName, overriddenIn]; done) | decide +kernel
theorem pd_3 : parseMethodDescriptor "(B)Z" = some ⟨[.byte], (some .boolean)⟩ := by decide +kernel
theorem ef_3 (m : MethodId) (x0 : Int32) : entryFrame m #[(.int x0)] 1 = mkF m 0 #[.val (.int x0)] [] := by first | (simp [entryFrame, mkF, argsToLocals, Value.category]; done) | rfl
def own_f3 (x0 : Int32) : Int32 := (if x0 = (47 : Int32) then (1 : Int32) else (if x0 = (35 : Int32) then (1 : Int32) else (if x0 = (58 : Int32) then (1 : Int32) else (0 : Int32))))
def own_F3 (Z : State) (x0 : Int32)  (h0 : Heap) (v : Option Value) (h : Heap) (L : List Loc) : Prop := v = some (.int (own_f3 x0)) ∧ L = [] ∧ h = h0
set_option maxRecDepth 65536 in
set_option maxHeartbeats 40000000 in
theorem own_m3 (l : Launch) (Z : State) (a0 : Array Value) (hw : ∀ d ∈ tables_1, d.before a0 Z = true) (ws : List Jvm.Cond) (x0 : Int32)  (h0 : Heap)   :
    MetFree l (⟨"com/example/backtrail/backtrail/core/GraphLayoutNamespaceLengthPinLaw", "sep", "(B)Z"⟩ : MethodName) (head1 (Jvm.Cond.code (⟨"com/example/backtrail/backtrail/core/GraphLayoutNamespaceLengthPinLaw", "sep", "(B)Z"⟩ : MethodName) method_3_code 1 (some .boolean) :: ws) ({ frames := 0, cells := 0, slots := 0, locals := 0 } : Room)) (fun a U => a = #[(.int x0)] ∧ Z.Warmed39 U.vm ∧ U.heap = h0) (fun _ _ _ _ _ => True) (fun _ U o U' => ∃ v L, o = .returned v ∧ own_F3 Z x0 h0 v U'.heap L ∧ FrameEnd U o U' L ({ frames := 0, cells := 0, slots := 0, locals := 0 } : Room).cells ({ frames := 0, cells := 0, slots := 0, locals := 0 } : Room).slots) := by
  refine MetFree.of_bodySF (plainFor_of_name pn_3) hisR ?_
  intro p e s m args below meth c s₁ Bd hml0 hP hK
  obtain ⟨rfl, hZ, hh⟩ := hP
  have hx := Bd.exec
  have hby := Bd.bytes
  have hml : c.maxLocals = 1 := hml0
  have hown : s.vm.findClass "com/example/backtrail/backtrail/core/GraphLayoutNamespaceLengthPinLaw" = some m.cls := findClass_of_methodNamed Bd.named
  have hnm := (name_of_methodNamed Bd.named Bd.method).1
  have X0 : Stand p l e ({ frames := 0, cells := 0, slots := 0, locals := 0 } : Room) s m #[(.int x0)] below meth c s₁ [] 0 0 := Stand.of_body Bd
  have e0 : s₁.heap = h0 := by rw [← hh, Bd.state]; rfl
  have hgo : own_Goes p e below s (own_F3 Z x0 h0) 0 0 (s₁.setTop (mkF m 0 #[.val (.int x0)] [])) := by
    refine own_Goes.step (fun t k => XS.iloadN X0.here hx rfl (hb hby d3_0) rfl k) ?_
    show own_Goes p e below s (own_F3 Z x0 h0) 0 0 (s₁.setTop (mkF m 1 #[.val (.int x0)] [(.int x0)]))
    refine own_Goes.step (fun t k => XT.bipushV X0.here hx rfl (47 : Int32) (hb hby d3_1) (by decide) k) ?_
    show own_Goes p e below s (own_F3 Z x0 h0) 0 0 (s₁.setTop (mkF m 3 #[.val (.int x0)] [(.int (47 : Int32)), (.int x0)]))
    by_cases hc1 : x0 = (47 : Int32)
    · refine own_Goes.step (fun t k => XS.icmpYes X0.here hx rfl (pc0 := 3) (pc' := 18) rfl (hb hby d3_3) rfl (XT.ii_eq_t hc1) (by decide) (by decide) k) ?_
      show own_Goes p e below s (own_F3 Z x0 h0) 0 0 (s₁.setTop (mkF m 18 #[.val (.int x0)] []))
      refine own_Goes.step (fun t k => XT.iconstV X0.here hx rfl (1 : Int32) (hb hby d3_18) (by decide) k) ?_
      show own_Goes p e below s (own_F3 Z x0 h0) 0 0 (s₁.setTop (mkF m 19 #[.val (.int x0)] [(.int (1 : Int32))]))
      refine own_Goes.step (fun t k => XS.goto X0.here hx rfl (pc0 := 19) (pc' := 23) rfl (hb hby d3_19) (by decide) (by decide) k) ?_
      show own_Goes p e below s (own_F3 Z x0 h0) 0 0 (s₁.setTop (mkF m 23 #[.val (.int x0)] [(.int (1 : Int32))]))
      exact own_endN X0 hx Bd.notSynchronized (t := .boolean) Bd.returns (by simp) (hb hby d3_23) ⟨(congrArg (fun z => some (Value.int z)) (show (1 : Int32) = own_f3 x0 from by simp only [own_f3, if_pos hc1])), rfl, e0⟩ (by decide) (by decide)
    · refine own_Goes.step (fun t k => XS.icmpNo X0.here hx rfl (hb hby d3_3) rfl (XT.ii_eq_f hc1) k) ?_
      show own_Goes p e below s (own_F3 Z x0 h0) 0 0 (s₁.setTop (mkF m 6 #[.val (.int x0)] []))
      refine own_Goes.step (fun t k => XS.iloadN X0.here hx rfl (hb hby d3_6) rfl k) ?_
      show own_Goes p e below s (own_F3 Z x0 h0) 0 0 (s₁.setTop (mkF m 7 #[.val (.int x0)] [(.int x0)]))
      refine own_Goes.step (fun t k => XT.bipushV X0.here hx rfl (35 : Int32) (hb hby d3_7) (by decide) k) ?_
      show own_Goes p e below s (own_F3 Z x0 h0) 0 0 (s₁.setTop (mkF m 9 #[.val (.int x0)] [(.int (35 : Int32)), (.int x0)]))
      by_cases hc2 : x0 = (35 : Int32)
      · refine own_Goes.step (fun t k => XS.icmpYes X0.here hx rfl (pc0 := 9) (pc' := 18) rfl (hb hby d3_9) rfl (XT.ii_eq_t hc2) (by decide) (by decide) k) ?_
        show own_Goes p e below s (own_F3 Z x0 h0) 0 0 (s₁.setTop (mkF m 18 #[.val (.int x0)] []))
        refine own_Goes.step (fun t k => XT.iconstV X0.here hx rfl (1 : Int32) (hb hby d3_18) (by decide) k) ?_
        show own_Goes p e below s (own_F3 Z x0 h0) 0 0 (s₁.setTop (mkF m 19 #[.val (.int x0)] [(.int (1 : Int32))]))
        refine own_Goes.step (fun t k => XS.goto X0.here hx rfl (pc0 := 19) (pc' := 23) rfl (hb hby d3_19) (by decide) (by decide) k) ?_
        show own_Goes p e below s (own_F3 Z x0 h0) 0 0 (s₁.setTop (mkF m 23 #[.val (.int x0)] [(.int (1 : Int32))]))
        exact own_endN X0 hx Bd.notSynchronized (t := .boolean) Bd.returns (by simp) (hb hby d3_23) ⟨(congrArg (fun z => some (Value.int z)) (show (1 : Int32) = own_f3 x0 from by simp only [own_f3, if_neg hc1, if_pos hc2])), rfl, e0⟩ (by decide) (by decide)
      · refine own_Goes.step (fun t k => XS.icmpNo X0.here hx rfl (hb hby d3_9) rfl (XT.ii_eq_f hc2) k) ?_
        show own_Goes p e below s (own_F3 Z x0 h0) 0 0 (s₁.setTop (mkF m 12 #[.val (.int x0)] []))
        refine own_Goes.step (fun t k => XS.iloadN X0.here hx rfl (hb hby d3_12) rfl k) ?_
        show own_Goes p e below s (own_F3 Z x0 h0) 0 0 (s₁.setTop (mkF m 13 #[.val (.int x0)] [(.int x0)]))
        refine own_Goes.step (fun t k => XT.bipushV X0.here hx rfl (58 : Int32) (hb hby d3_13) (by decide) k) ?_
        show own_Goes p e below s (own_F3 Z x0 h0) 0 0 (s₁.setTop (mkF m 15 #[.val (.int x0)] [(.int (58 : Int32)), (.int x0)]))
        by_cases hc3 : x0 = (58 : Int32)
        · refine own_Goes.step (fun t k => XS.icmpNo X0.here hx rfl (hb hby d3_15) rfl (XT.ii_ne_f hc3) k) ?_
          show own_Goes p e below s (own_F3 Z x0 h0) 0 0 (s₁.setTop (mkF m 18 #[.val (.int x0)] []))
          refine own_Goes.step (fun t k => XT.iconstV X0.here hx rfl (1 : Int32) (hb hby d3_18) (by decide) k) ?_
          show own_Goes p e below s (own_F3 Z x0 h0) 0 0 (s₁.setTop (mkF m 19 #[.val (.int x0)] [(.int (1 : Int32))]))
          refine own_Goes.step (fun t k => XS.goto X0.here hx rfl (pc0 := 19) (pc' := 23) rfl (hb hby d3_19) (by decide) (by decide) k) ?_
          show own_Goes p e below s (own_F3 Z x0 h0) 0 0 (s₁.setTop (mkF m 23 #[.val (.int x0)] [(.int (1 : Int32))]))
          exact own_endN X0 hx Bd.notSynchronized (t := .boolean) Bd.returns (by simp) (hb hby d3_23) ⟨(congrArg (fun z => some (Value.int z)) (show (1 : Int32) = own_f3 x0 from by simp only [own_f3, if_neg hc1, if_neg hc2, if_pos hc3])), rfl, e0⟩ (by decide) (by decide)
        · refine own_Goes.step (fun t k => XS.icmpYes X0.here hx rfl (pc0 := 15) (pc' := 22) rfl (hb hby d3_15) rfl (XT.ii_ne_t hc3) (by decide) (by decide) k) ?_
          show own_Goes p e below s (own_F3 Z x0 h0) 0 0 (s₁.setTop (mkF m 22 #[.val (.int x0)] []))
          refine own_Goes.step (fun t k => XT.iconstV X0.here hx rfl (0 : Int32) (hb hby d3_22) (by decide) k) ?_
          show own_Goes p e below s (own_F3 Z x0 h0) 0 0 (s₁.setTop (mkF m 23 #[.val (.int x0)] [(.int (0 : Int32))]))
          exact own_endN X0 hx Bd.notSynchronized (t := .boolean) Bd.returns (by simp) (hb hby d3_23) ⟨(congrArg (fun z => some (Value.int z)) (show (0 : Int32) = own_f3 x0 from by simp only [own_f3, if_neg hc1, if_neg hc2, if_neg hc3])), rfl, e0⟩ (by decide) (by decide)
  obtain ⟨t2, o2, q1, q2, q3, q4⟩ := hgo
  exact ⟨t2, o2, castTop (ef_3 m x0) q1, q2, q3, q4⟩
theorem d2_0 : decode prog_11_method_20_code 0 = .ok (.aload_n 0, 1) := by decide +kernel
theorem d2_1 : decode prog_11_method_20_code 1 = .ok (.arraylength, 1) := by decide +kernel
theorem d2_2 : decode prog_11_method_20_code 2 = .ok (.iconst 1, 1) := by decide +kernel
theorem d2_3 : decode prog_11_method_20_code 3 = .ok (.isub, 1) := by decide +kernel
theorem d2_4 : decode prog_11_method_20_code 4 = .ok (.istore_n 1, 1) := by decide +kernel
theorem d2_5 : decode prog_11_method_20_code 5 = .ok (.iload_n 1, 1) := by decide +kernel
theorem d2_6 : decode prog_11_method_20_code 6 = .ok (.ifCond .lt 37, 3) := by decide +kernel
theorem d2_9 : decode prog_11_method_20_code 9 = .ok (.aload_n 0, 1) := by decide +kernel
theorem d2_10 : decode prog_11_method_20_code 10 = .ok (.iload_n 1, 1) := by decide +kernel
theorem d2_11 : decode prog_11_method_20_code 11 = .ok (.baload, 1) := by decide +kernel
theorem d2_12 : decode prog_11_method_20_code 12 = .ok (.bipush 47, 2) := by decide +kernel
theorem d2_14 : decode prog_11_method_20_code 14 = .ok (.if_icmp .eq 19, 3) := by decide +kernel
theorem d2_17 : decode prog_11_method_20_code 17 = .ok (.aload_n 0, 1) := by decide +kernel
theorem d2_18 : decode prog_11_method_20_code 18 = .ok (.iload_n 1, 1) := by decide +kernel
theorem d2_19 : decode prog_11_method_20_code 19 = .ok (.baload, 1) := by decide +kernel
theorem d2_20 : decode prog_11_method_20_code 20 = .ok (.bipush 35, 2) := by decide +kernel
theorem d2_22 : decode prog_11_method_20_code 22 = .ok (.if_icmp .eq 11, 3) := by decide +kernel
theorem d2_25 : decode prog_11_method_20_code 25 = .ok (.aload_n 0, 1) := by decide +kernel
theorem d2_26 : decode prog_11_method_20_code 26 = .ok (.iload_n 1, 1) := by decide +kernel
theorem d2_27 : decode prog_11_method_20_code 27 = .ok (.baload, 1) := by decide +kernel
theorem d2_28 : decode prog_11_method_20_code 28 = .ok (.bipush 58, 2) := by decide +kernel
theorem d2_30 : decode prog_11_method_20_code 30 = .ok (.if_icmp .ne 7, 3) := by decide +kernel
theorem d2_33 : decode prog_11_method_20_code 33 = .ok (.iload_n 1, 1) := by decide +kernel
theorem d2_34 : decode prog_11_method_20_code 34 = .ok (.iconst 1, 1) := by decide +kernel
theorem d2_35 : decode prog_11_method_20_code 35 = .ok (.iadd, 1) := by decide +kernel
theorem d2_36 : decode prog_11_method_20_code 36 = .ok (.ireturn, 1) := by decide +kernel
theorem d2_37 : decode prog_11_method_20_code 37 = .ok (.iinc 1 (-1), 3) := by decide +kernel
theorem d2_40 : decode prog_11_method_20_code 40 = .ok (.goto (-35), 3) := by decide +kernel
theorem d2_43 : decode prog_11_method_20_code 43 = .ok (.iconst 0, 1) := by decide +kernel
theorem d2_44 : decode prog_11_method_20_code 44 = .ok (.ireturn, 1) := by decide +kernel
theorem pn_2 : plainName "com/example/backtrail/backtrail/core/GraphLayout" = true := by first | (simp [plainName, overriddenIn]; done) | decide +kernel
theorem pd_2 : parseMethodDescriptor "([B)I" = some ⟨[(.array .byte)], (some .int)⟩ := by decide +kernel
theorem ef_2 (m : MethodId) (x0 : Addr) : entryFrame m #[(.ref x0)] 2 = mkF m 0 #[.val (.ref x0), .unset] [] := by first | (simp [entryFrame, mkF, argsToLocals, Value.category]; done) | rfl
def own_F2 (Z : State) (x0 : Addr) (n : Nat) (f : Nat → Int32) (n0 : Nat) (h0 : Heap) (v : Option Value) (h : Heap) (L : List Loc) : Prop := v = some (.int (own_nsl f n)) ∧ L = [] ∧ h = h0
set_option maxRecDepth 65536 in
set_option maxHeartbeats 40000000 in
theorem own_m2 (l : Launch) (Z : State) (a0 : Array Value) (hw : ∀ d ∈ tables_1, d.before a0 Z = true) (ws : List Jvm.Cond) (x0 : Addr) (n : Nat) (f : Nat → Int32) (n0 : Nat) (h0 : Heap)  (A0 : own_Ar Z h0 x0 .byte n (fun uu => .int (f uu))) (hn : n < 2147483648) :
    MetFree l (⟨"com/example/backtrail/backtrail/core/GraphLayout", "namespaceLength", "([B)I"⟩ : MethodName) (head1 (Jvm.Cond.code (⟨"com/example/backtrail/backtrail/core/GraphLayout", "namespaceLength", "([B)I"⟩ : MethodName) prog_11_method_20_code 2 (some .int) :: ws) ({ frames := 0, cells := 0, slots := 0, locals := 0 } : Room)) (fun a U => a = #[(.ref x0)] ∧ Z.Warmed39 U.vm ∧ U.heap = h0) (fun _ _ _ _ _ => True) (fun _ U o U' => ∃ v L, o = .returned v ∧ own_F2 Z x0 n f n0 h0 v U'.heap L ∧ FrameEnd U o U' L ({ frames := 0, cells := 0, slots := 0, locals := 0 } : Room).cells ({ frames := 0, cells := 0, slots := 0, locals := 0 } : Room).slots) := by
  refine MetFree.of_bodySF (plainFor_of_name pn_2) hisR ?_
  intro p e s m args below meth c s₁ Bd hml0 hP hK
  obtain ⟨rfl, hZ, hh⟩ := hP
  have hx := Bd.exec
  have hby := Bd.bytes
  have hml : c.maxLocals = 2 := hml0
  have hown : s.vm.findClass "com/example/backtrail/backtrail/core/GraphLayout" = some m.cls := findClass_of_methodNamed Bd.named
  have hnm := (name_of_methodNamed Bd.named Bd.method).1
  have X0 : Stand p l e ({ frames := 0, cells := 0, slots := 0, locals := 0 } : Room) s m #[(.ref x0)] below meth c s₁ [] 0 0 := Stand.of_body Bd
  have e0 : s₁.heap = h0 := by rw [← hh, Bd.state]; rfl
  have N0 := Fr.nil n0
  have K0 : Keep h0 h0 [] := Keep.refl h0 []
  have hgo : own_Goes p e below s (own_F2 Z x0 n f n0 h0) 0 0 (s₁.setTop (mkF m 0 #[.val (.ref x0), .unset] [])) := by
    refine own_Goes.step (fun t k => XS.aloadN X0.here hx rfl (hb hby d2_0) rfl rfl k) ?_
    show own_Goes p e below s (own_F2 Z x0 n f n0 h0) 0 0 (s₁.setTop (mkF m 1 #[.val (.ref x0), .unset] [(.ref x0)]))
    refine own_Goes.step (own_alen X0 hx hZ e0 A0 (z := (Int32.ofNat n)) rfl (g := (mkF m 1 #[.val (.ref x0), .unset] [(.ref x0)])) rfl rfl (hb hby d2_1)) ?_
    show own_Goes p e below s (own_F2 Z x0 n f n0 h0) 0 0 (s₁.setTop (mkF m 2 #[.val (.ref x0), .unset] [(.int (Int32.ofNat n))]))
    refine own_Goes.step (fun t k => XT.iconstV X0.here hx rfl (1 : Int32) (hb hby d2_2) (by decide) k) ?_
    show own_Goes p e below s (own_F2 Z x0 n f n0 h0) 0 0 (s₁.setTop (mkF m 3 #[.val (.ref x0), .unset] [(.int (1 : Int32)), (.int (Int32.ofNat n))]))
    refine own_Goes.step (fun t k => XS.isub X0.here hx rfl (hb hby d2_3) rfl k) ?_
    show own_Goes p e below s (own_F2 Z x0 n f n0 h0) 0 0 (s₁.setTop (mkF m 4 #[.val (.ref x0), .unset] [(.int ((Int32.ofNat n) - (1 : Int32)))]))
    refine own_Goes.step (fun t k => XS.istoreN X0.here hx rfl (hb hby d2_4) rfl (l' := #[.val (.ref x0), .val (.int ((Int32.ofNat n) - (1 : Int32)))]) rfl k) ?_
    show own_Goes p e below s (own_F2 Z x0 n f n0 h0) 0 0 (s₁.setTop (mkF m 5 #[.val (.ref x0), .val (.int ((Int32.ofNat n) - (1 : Int32)))] []))
    have loop : ∀ (k : Nat) (i : Int32), i.toInt = (k : Int) - 1 → k ≤ n → own_nsl f n = own_nsl f k → own_Goes p e below s (own_F2 Z x0 n f n0 h0) 0 0 (s₁.setTop (mkF m 5 #[.val (.ref x0), .val (.int i)] [])) := by
      intro k
      induction k with
      | zero =>
        intro i hi hk he
        have hneg : i < 0 := by rw [own_lt32, Int32.toInt_zero]; omega
        refine own_Goes.step (fun t k => XS.iloadN X0.here hx rfl (hb hby d2_5) rfl k) ?_
        show own_Goes p e below s (own_F2 Z x0 n f n0 h0) 0 0 (s₁.setTop (mkF m 6 #[.val (.ref x0), .val (.int i)] [(.int i)]))
        refine own_Goes.step (fun t k => XS.ifYes X0.here hx rfl (pc0 := 6) (pc' := 43) rfl (hb hby d2_6) rfl (XT.i0_lt_t (hneg)) (by decide) (by decide) k) ?_
        show own_Goes p e below s (own_F2 Z x0 n f n0 h0) 0 0 (s₁.setTop (mkF m 43 #[.val (.ref x0), .val (.int i)] []))
        refine own_Goes.step (fun t k => XT.iconstV X0.here hx rfl (0 : Int32) (hb hby d2_43) (by decide) k) ?_
        show own_Goes p e below s (own_F2 Z x0 n f n0 h0) 0 0 (s₁.setTop (mkF m 44 #[.val (.ref x0), .val (.int i)] [(.int (0 : Int32))]))
        refine own_endI X0 hx Bd.notSynchronized Bd.returns (hb hby d2_44) ?_ (by decide) (by decide)
        show own_F2 Z x0 n f n0 h0 _ s₁.heap _
        rw [e0]
        exact ⟨by rw [he]; rfl, rfl, rfl⟩
      | succ k ih =>
        intro i hi hk he
        have hik : i.toInt = (k : Nat) := by omega
        have hpos : ¬ i < 0 := by rw [own_lt32, Int32.toInt_zero]; omega
        have hkn : k < n := hk
        refine own_Goes.step (fun t k => XS.iloadN X0.here hx rfl (hb hby d2_5) rfl k) ?_
        show own_Goes p e below s (own_F2 Z x0 n f n0 h0) 0 0 (s₁.setTop (mkF m 6 #[.val (.ref x0), .val (.int i)] [(.int i)]))
        refine own_Goes.step (fun t k => XS.ifNo X0.here hx rfl (hb hby d2_6) rfl (XT.i0_lt_f (hpos)) k) ?_
        show own_Goes p e below s (own_F2 Z x0 n f n0 h0) 0 0 (s₁.setTop (mkF m 9 #[.val (.ref x0), .val (.int i)] []))
        refine own_Goes.step (fun t k => XS.aloadN X0.here hx rfl (hb hby d2_9) rfl rfl k) ?_
        show own_Goes p e below s (own_F2 Z x0 n f n0 h0) 0 0 (s₁.setTop (mkF m 10 #[.val (.ref x0), .val (.int i)] [(.ref x0)]))
        refine own_Goes.step (fun t k => XS.iloadN X0.here hx rfl (hb hby d2_10) rfl k) ?_
        show own_Goes p e below s (own_F2 Z x0 n f n0 h0) 0 0 (s₁.setTop (mkF m 11 #[.val (.ref x0), .val (.int i)] [(.int i), (.ref x0)]))
        refine own_Goes.step (own_bald X0 hx hZ e0 A0 (i := k) hik hkn (v := (.int (f k))) rfl (g := (mkF m 11 #[.val (.ref x0), .val (.int i)] [(.int i), (.ref x0)])) rfl rfl (hb hby d2_11)) ?_
        show own_Goes p e below s (own_F2 Z x0 n f n0 h0) 0 0 (s₁.setTop (mkF m 12 #[.val (.ref x0), .val (.int i)] [(.int (f k))]))
        refine own_Goes.step (fun t k => XT.bipushV X0.here hx rfl (47 : Int32) (hb hby d2_12) (by decide) k) ?_
        show own_Goes p e below s (own_F2 Z x0 n f n0 h0) 0 0 (s₁.setTop (mkF m 14 #[.val (.ref x0), .val (.int i)] [(.int (47 : Int32)), (.int (f k))]))
        by_cases hc3 : (f k) = (47 : Int32)
        · refine own_Goes.step (fun t k => XS.icmpYes X0.here hx rfl (pc0 := 14) (pc' := 33) rfl (hb hby d2_14) rfl (XT.ii_eq_t hc3) (by decide) (by decide) k) ?_
          show own_Goes p e below s (own_F2 Z x0 n f n0 h0) 0 0 (s₁.setTop (mkF m 33 #[.val (.ref x0), .val (.int i)] []))
          refine own_Goes.step (fun t k => XS.iloadN X0.here hx rfl (hb hby d2_33) rfl k) ?_
          show own_Goes p e below s (own_F2 Z x0 n f n0 h0) 0 0 (s₁.setTop (mkF m 34 #[.val (.ref x0), .val (.int i)] [(.int i)]))
          refine own_Goes.step (fun t k => XT.iconstV X0.here hx rfl (1 : Int32) (hb hby d2_34) (by decide) k) ?_
          show own_Goes p e below s (own_F2 Z x0 n f n0 h0) 0 0 (s₁.setTop (mkF m 35 #[.val (.ref x0), .val (.int i)] [(.int (1 : Int32)), (.int i)]))
          refine own_Goes.step (fun t k => XS.iadd X0.here hx rfl (hb hby d2_35) rfl k) ?_
          show own_Goes p e below s (own_F2 Z x0 n f n0 h0) 0 0 (s₁.setTop (mkF m 36 #[.val (.ref x0), .val (.int i)] [(.int (i + (1 : Int32)))]))
          refine own_endI X0 hx Bd.notSynchronized Bd.returns (hb hby d2_36) ?_ (by decide) (by decide)
          show own_F2 Z x0 n f n0 h0 _ s₁.heap _
          rw [e0]
          exact ⟨by rw [he, own_nsl_succ]; simp only [if_pos hc3]; rw [own_succ hik], rfl, rfl⟩
        · refine own_Goes.step (fun t k => XS.icmpNo X0.here hx rfl (hb hby d2_14) rfl (XT.ii_eq_f hc3) k) ?_
          show own_Goes p e below s (own_F2 Z x0 n f n0 h0) 0 0 (s₁.setTop (mkF m 17 #[.val (.ref x0), .val (.int i)] []))
          refine own_Goes.step (fun t k => XS.aloadN X0.here hx rfl (hb hby d2_17) rfl rfl k) ?_
          show own_Goes p e below s (own_F2 Z x0 n f n0 h0) 0 0 (s₁.setTop (mkF m 18 #[.val (.ref x0), .val (.int i)] [(.ref x0)]))
          refine own_Goes.step (fun t k => XS.iloadN X0.here hx rfl (hb hby d2_18) rfl k) ?_
          show own_Goes p e below s (own_F2 Z x0 n f n0 h0) 0 0 (s₁.setTop (mkF m 19 #[.val (.ref x0), .val (.int i)] [(.int i), (.ref x0)]))
          refine own_Goes.step (own_bald X0 hx hZ e0 A0 (i := k) hik hkn (v := (.int (f k))) rfl (g := (mkF m 19 #[.val (.ref x0), .val (.int i)] [(.int i), (.ref x0)])) rfl rfl (hb hby d2_19)) ?_
          show own_Goes p e below s (own_F2 Z x0 n f n0 h0) 0 0 (s₁.setTop (mkF m 20 #[.val (.ref x0), .val (.int i)] [(.int (f k))]))
          refine own_Goes.step (fun t k => XT.bipushV X0.here hx rfl (35 : Int32) (hb hby d2_20) (by decide) k) ?_
          show own_Goes p e below s (own_F2 Z x0 n f n0 h0) 0 0 (s₁.setTop (mkF m 22 #[.val (.ref x0), .val (.int i)] [(.int (35 : Int32)), (.int (f k))]))
          by_cases hc5 : (f k) = (35 : Int32)
          · refine own_Goes.step (fun t k => XS.icmpYes X0.here hx rfl (pc0 := 22) (pc' := 33) rfl (hb hby d2_22) rfl (XT.ii_eq_t hc5) (by decide) (by decide) k) ?_
            show own_Goes p e below s (own_F2 Z x0 n f n0 h0) 0 0 (s₁.setTop (mkF m 33 #[.val (.ref x0), .val (.int i)] []))
            refine own_Goes.step (fun t k => XS.iloadN X0.here hx rfl (hb hby d2_33) rfl k) ?_
            show own_Goes p e below s (own_F2 Z x0 n f n0 h0) 0 0 (s₁.setTop (mkF m 34 #[.val (.ref x0), .val (.int i)] [(.int i)]))
            refine own_Goes.step (fun t k => XT.iconstV X0.here hx rfl (1 : Int32) (hb hby d2_34) (by decide) k) ?_
            show own_Goes p e below s (own_F2 Z x0 n f n0 h0) 0 0 (s₁.setTop (mkF m 35 #[.val (.ref x0), .val (.int i)] [(.int (1 : Int32)), (.int i)]))
            refine own_Goes.step (fun t k => XS.iadd X0.here hx rfl (hb hby d2_35) rfl k) ?_
            show own_Goes p e below s (own_F2 Z x0 n f n0 h0) 0 0 (s₁.setTop (mkF m 36 #[.val (.ref x0), .val (.int i)] [(.int (i + (1 : Int32)))]))
            refine own_endI X0 hx Bd.notSynchronized Bd.returns (hb hby d2_36) ?_ (by decide) (by decide)
            show own_F2 Z x0 n f n0 h0 _ s₁.heap _
            rw [e0]
            exact ⟨by rw [he, own_nsl_succ]; simp only [if_neg hc3, if_pos hc5]; rw [own_succ hik], rfl, rfl⟩
          · refine own_Goes.step (fun t k => XS.icmpNo X0.here hx rfl (hb hby d2_22) rfl (XT.ii_eq_f hc5) k) ?_
            show own_Goes p e below s (own_F2 Z x0 n f n0 h0) 0 0 (s₁.setTop (mkF m 25 #[.val (.ref x0), .val (.int i)] []))
            refine own_Goes.step (fun t k => XS.aloadN X0.here hx rfl (hb hby d2_25) rfl rfl k) ?_
            show own_Goes p e below s (own_F2 Z x0 n f n0 h0) 0 0 (s₁.setTop (mkF m 26 #[.val (.ref x0), .val (.int i)] [(.ref x0)]))
            refine own_Goes.step (fun t k => XS.iloadN X0.here hx rfl (hb hby d2_26) rfl k) ?_
            show own_Goes p e below s (own_F2 Z x0 n f n0 h0) 0 0 (s₁.setTop (mkF m 27 #[.val (.ref x0), .val (.int i)] [(.int i), (.ref x0)]))
            refine own_Goes.step (own_bald X0 hx hZ e0 A0 (i := k) hik hkn (v := (.int (f k))) rfl (g := (mkF m 27 #[.val (.ref x0), .val (.int i)] [(.int i), (.ref x0)])) rfl rfl (hb hby d2_27)) ?_
            show own_Goes p e below s (own_F2 Z x0 n f n0 h0) 0 0 (s₁.setTop (mkF m 28 #[.val (.ref x0), .val (.int i)] [(.int (f k))]))
            refine own_Goes.step (fun t k => XT.bipushV X0.here hx rfl (58 : Int32) (hb hby d2_28) (by decide) k) ?_
            show own_Goes p e below s (own_F2 Z x0 n f n0 h0) 0 0 (s₁.setTop (mkF m 30 #[.val (.ref x0), .val (.int i)] [(.int (58 : Int32)), (.int (f k))]))
            by_cases hc7 : (f k) = (58 : Int32)
            · refine own_Goes.step (fun t k => XS.icmpNo X0.here hx rfl (hb hby d2_30) rfl (XT.ii_ne_f hc7) k) ?_
              show own_Goes p e below s (own_F2 Z x0 n f n0 h0) 0 0 (s₁.setTop (mkF m 33 #[.val (.ref x0), .val (.int i)] []))
              refine own_Goes.step (fun t k => XS.iloadN X0.here hx rfl (hb hby d2_33) rfl k) ?_
              show own_Goes p e below s (own_F2 Z x0 n f n0 h0) 0 0 (s₁.setTop (mkF m 34 #[.val (.ref x0), .val (.int i)] [(.int i)]))
              refine own_Goes.step (fun t k => XT.iconstV X0.here hx rfl (1 : Int32) (hb hby d2_34) (by decide) k) ?_
              show own_Goes p e below s (own_F2 Z x0 n f n0 h0) 0 0 (s₁.setTop (mkF m 35 #[.val (.ref x0), .val (.int i)] [(.int (1 : Int32)), (.int i)]))
              refine own_Goes.step (fun t k => XS.iadd X0.here hx rfl (hb hby d2_35) rfl k) ?_
              show own_Goes p e below s (own_F2 Z x0 n f n0 h0) 0 0 (s₁.setTop (mkF m 36 #[.val (.ref x0), .val (.int i)] [(.int (i + (1 : Int32)))]))
              refine own_endI X0 hx Bd.notSynchronized Bd.returns (hb hby d2_36) ?_ (by decide) (by decide)
              show own_F2 Z x0 n f n0 h0 _ s₁.heap _
              rw [e0]
              exact ⟨by rw [he, own_nsl_succ]; simp only [if_neg hc3, if_neg hc5, if_pos hc7]; rw [own_succ hik], rfl, rfl⟩
            · refine own_Goes.step (fun t k => XS.icmpYes X0.here hx rfl (pc0 := 30) (pc' := 37) rfl (hb hby d2_30) rfl (XT.ii_ne_t hc7) (by decide) (by decide) k) ?_
              show own_Goes p e below s (own_F2 Z x0 n f n0 h0) 0 0 (s₁.setTop (mkF m 37 #[.val (.ref x0), .val (.int i)] []))
              refine own_Goes.step (fun t k => XT.iincV X0.here hx rfl (-1 : Int32) (hb hby d2_37) (by decide) rfl (l' := #[.val (.ref x0), .val (.int (i + (-1 : Int32)))]) rfl k) ?_
              show own_Goes p e below s (own_F2 Z x0 n f n0 h0) 0 0 (s₁.setTop (mkF m 40 #[.val (.ref x0), .val (.int (i + (-1 : Int32)))] []))
              refine own_Goes.step (fun t k => XS.goto X0.here hx rfl (pc0 := 40) (pc' := 5) rfl (hb hby d2_40) (by decide) (by decide) k) ?_
              show own_Goes p e below s (own_F2 Z x0 n f n0 h0) 0 0 (s₁.setTop (mkF m 5 #[.val (.ref x0), .val (.int (i + (-1 : Int32)))] []))
              exact ih _ (own_dec hik) (Nat.le_of_lt hkn) (by rw [he, own_nsl_succ]; simp only [if_neg hc3, if_neg hc5, if_neg hc7])
    exact loop n _ (own_last hn) (Nat.le_refl n) rfl
  obtain ⟨t2, o2, q1, q2, q3, q4⟩ := hgo
  exact ⟨t2, o2, castTop (ef_2 m x0) q1, q2, q3, q4⟩
theorem d1_0 : decode method_2_code 0 = .ok (.iload_n 0, 1) := by decide +kernel
theorem d1_1 : decode method_2_code 1 = .ok (.iconst 3, 1) := by decide +kernel
theorem d1_2 : decode method_2_code 2 = .ok (.iand, 1) := by decide +kernel
theorem d1_3 : decode method_2_code 3 = .ok (.istore_n 1, 1) := by decide +kernel
theorem d1_4 : decode method_2_code 4 = .ok (.iload_n 1, 1) := by decide +kernel
theorem d1_5 : decode method_2_code 5 = .ok (.ifCond .ne 6, 3) := by decide +kernel
theorem d1_8 : decode method_2_code 8 = .ok (.bipush 47, 2) := by decide +kernel
theorem d1_10 : decode method_2_code 10 = .ok (.ireturn, 1) := by decide +kernel
theorem d1_11 : decode method_2_code 11 = .ok (.iload_n 1, 1) := by decide +kernel
theorem d1_12 : decode method_2_code 12 = .ok (.iconst 1, 1) := by decide +kernel
theorem d1_13 : decode method_2_code 13 = .ok (.if_icmp .ne 6, 3) := by decide +kernel
theorem d1_16 : decode method_2_code 16 = .ok (.bipush 35, 2) := by decide +kernel
theorem d1_18 : decode method_2_code 18 = .ok (.ireturn, 1) := by decide +kernel
theorem d1_19 : decode method_2_code 19 = .ok (.iload_n 1, 1) := by decide +kernel
theorem d1_20 : decode method_2_code 20 = .ok (.iconst 2, 1) := by decide +kernel
theorem d1_21 : decode method_2_code 21 = .ok (.if_icmp .ne 6, 3) := by decide +kernel
theorem d1_24 : decode method_2_code 24 = .ok (.bipush 58, 2) := by decide +kernel
theorem d1_26 : decode method_2_code 26 = .ok (.ireturn, 1) := by decide +kernel
theorem d1_27 : decode method_2_code 27 = .ok (.iload_n 0, 1) := by decide +kernel
theorem d1_28 : decode method_2_code 28 = .ok (.iconst 2, 1) := by decide +kernel
theorem d1_29 : decode method_2_code 29 = .ok (.ishr, 1) := by decide +kernel
theorem d1_30 : decode method_2_code 30 = .ok (.i2b, 1) := by decide +kernel
theorem d1_31 : decode method_2_code 31 = .ok (.ireturn, 1) := by decide +kernel
theorem pn_1 : plainName "com/example/backtrail/backtrail/core/GraphLayoutNamespaceLengthPinLaw" = true := by first | (simp [plainName, overriddenIn]; done) | decide +kernel
theorem pd_1 : parseMethodDescriptor "(I)B" = some ⟨[.int], (some .byte)⟩ := by decide +kernel
theorem ef_1 (m : MethodId) (x0 : Int32) : entryFrame m #[(.int x0)] 2 = mkF m 0 #[.val (.int x0), .unset] [] := by first | (simp [entryFrame, mkF, argsToLocals, Value.category]; done) | rfl
def own_f1 (x0 : Int32) : Int32 := (if (x0 &&& (3 : Int32)) = (0 : Int32) then (47 : Int32) else (if (x0 &&& (3 : Int32)) = (1 : Int32) then (35 : Int32) else (if (x0 &&& (3 : Int32)) = (2 : Int32) then (58 : Int32) else (nar .byte ((x0 >>> ((2 : Int32) &&& 31)).toInt8.toInt32)))))
def own_F1 (Z : State) (x0 : Int32)  (h0 : Heap) (v : Option Value) (h : Heap) (L : List Loc) : Prop := v = some (.int (own_f1 x0)) ∧ L = [] ∧ h = h0
set_option maxRecDepth 65536 in
set_option maxHeartbeats 40000000 in
theorem own_m1 (l : Launch) (Z : State) (a0 : Array Value) (hw : ∀ d ∈ tables_1, d.before a0 Z = true) (ws : List Jvm.Cond) (x0 : Int32)  (h0 : Heap)   :
    MetFree l (⟨"com/example/backtrail/backtrail/core/GraphLayoutNamespaceLengthPinLaw", "pick", "(I)B"⟩ : MethodName) (head1 (Jvm.Cond.code (⟨"com/example/backtrail/backtrail/core/GraphLayoutNamespaceLengthPinLaw", "pick", "(I)B"⟩ : MethodName) method_2_code 2 (some .byte) :: ws) ({ frames := 0, cells := 0, slots := 0, locals := 0 } : Room)) (fun a U => a = #[(.int x0)] ∧ Z.Warmed39 U.vm ∧ U.heap = h0) (fun _ _ _ _ _ => True) (fun _ U o U' => ∃ v L, o = .returned v ∧ own_F1 Z x0 h0 v U'.heap L ∧ FrameEnd U o U' L ({ frames := 0, cells := 0, slots := 0, locals := 0 } : Room).cells ({ frames := 0, cells := 0, slots := 0, locals := 0 } : Room).slots) := by
  refine MetFree.of_bodySF (plainFor_of_name pn_1) hisR ?_
  intro p e s m args below meth c s₁ Bd hml0 hP hK
  obtain ⟨rfl, hZ, hh⟩ := hP
  have hx := Bd.exec
  have hby := Bd.bytes
  have hml : c.maxLocals = 2 := hml0
  have hown : s.vm.findClass "com/example/backtrail/backtrail/core/GraphLayoutNamespaceLengthPinLaw" = some m.cls := findClass_of_methodNamed Bd.named
  have hnm := (name_of_methodNamed Bd.named Bd.method).1
  have X0 : Stand p l e ({ frames := 0, cells := 0, slots := 0, locals := 0 } : Room) s m #[(.int x0)] below meth c s₁ [] 0 0 := Stand.of_body Bd
  have e0 : s₁.heap = h0 := by rw [← hh, Bd.state]; rfl
  have hgo : own_Goes p e below s (own_F1 Z x0 h0) 0 0 (s₁.setTop (mkF m 0 #[.val (.int x0), .unset] [])) := by
    refine own_Goes.step (fun t k => XS.iloadN X0.here hx rfl (hb hby d1_0) rfl k) ?_
    show own_Goes p e below s (own_F1 Z x0 h0) 0 0 (s₁.setTop (mkF m 1 #[.val (.int x0), .unset] [(.int x0)]))
    refine own_Goes.step (fun t k => XT.iconstV X0.here hx rfl (3 : Int32) (hb hby d1_1) (by decide) k) ?_
    show own_Goes p e below s (own_F1 Z x0 h0) 0 0 (s₁.setTop (mkF m 2 #[.val (.int x0), .unset] [(.int (3 : Int32)), (.int x0)]))
    refine own_Goes.step (fun t k => XS.iand X0.here hx rfl (hb hby d1_2) rfl k) ?_
    show own_Goes p e below s (own_F1 Z x0 h0) 0 0 (s₁.setTop (mkF m 3 #[.val (.int x0), .unset] [(.int (x0 &&& (3 : Int32)))]))
    refine own_Goes.step (fun t k => XS.istoreN X0.here hx rfl (hb hby d1_3) rfl (l' := #[.val (.int x0), .val (.int (x0 &&& (3 : Int32)))]) rfl k) ?_
    show own_Goes p e below s (own_F1 Z x0 h0) 0 0 (s₁.setTop (mkF m 4 #[.val (.int x0), .val (.int (x0 &&& (3 : Int32)))] []))
    refine own_Goes.step (fun t k => XS.iloadN X0.here hx rfl (hb hby d1_4) rfl k) ?_
    show own_Goes p e below s (own_F1 Z x0 h0) 0 0 (s₁.setTop (mkF m 5 #[.val (.int x0), .val (.int (x0 &&& (3 : Int32)))] [(.int (x0 &&& (3 : Int32)))]))
    by_cases hc1 : (x0 &&& (3 : Int32)) = (0 : Int32)
    · refine own_Goes.step (fun t k => XS.ifNo X0.here hx rfl (hb hby d1_5) rfl (XT.i0_ne_f hc1) k) ?_
      show own_Goes p e below s (own_F1 Z x0 h0) 0 0 (s₁.setTop (mkF m 8 #[.val (.int x0), .val (.int (x0 &&& (3 : Int32)))] []))
      refine own_Goes.step (fun t k => XT.bipushV X0.here hx rfl (47 : Int32) (hb hby d1_8) (by decide) k) ?_
      show own_Goes p e below s (own_F1 Z x0 h0) 0 0 (s₁.setTop (mkF m 10 #[.val (.int x0), .val (.int (x0 &&& (3 : Int32)))] [(.int (47 : Int32))]))
      exact own_endN X0 hx Bd.notSynchronized (t := .byte) Bd.returns (by simp) (hb hby d1_10) ⟨(congrArg (fun z => some (Value.int z)) (show (47 : Int32) = own_f1 x0 from by simp only [own_f1, if_pos hc1])), rfl, e0⟩ (by decide) (by decide)
    · refine own_Goes.step (fun t k => XS.ifYes X0.here hx rfl (pc0 := 5) (pc' := 11) rfl (hb hby d1_5) rfl (XT.i0_ne_t hc1) (by decide) (by decide) k) ?_
      show own_Goes p e below s (own_F1 Z x0 h0) 0 0 (s₁.setTop (mkF m 11 #[.val (.int x0), .val (.int (x0 &&& (3 : Int32)))] []))
      refine own_Goes.step (fun t k => XS.iloadN X0.here hx rfl (hb hby d1_11) rfl k) ?_
      show own_Goes p e below s (own_F1 Z x0 h0) 0 0 (s₁.setTop (mkF m 12 #[.val (.int x0), .val (.int (x0 &&& (3 : Int32)))] [(.int (x0 &&& (3 : Int32)))]))
      refine own_Goes.step (fun t k => XT.iconstV X0.here hx rfl (1 : Int32) (hb hby d1_12) (by decide) k) ?_
      show own_Goes p e below s (own_F1 Z x0 h0) 0 0 (s₁.setTop (mkF m 13 #[.val (.int x0), .val (.int (x0 &&& (3 : Int32)))] [(.int (1 : Int32)), (.int (x0 &&& (3 : Int32)))]))
      by_cases hc2 : (x0 &&& (3 : Int32)) = (1 : Int32)
      · refine own_Goes.step (fun t k => XS.icmpNo X0.here hx rfl (hb hby d1_13) rfl (XT.ii_ne_f hc2) k) ?_
        show own_Goes p e below s (own_F1 Z x0 h0) 0 0 (s₁.setTop (mkF m 16 #[.val (.int x0), .val (.int (x0 &&& (3 : Int32)))] []))
        refine own_Goes.step (fun t k => XT.bipushV X0.here hx rfl (35 : Int32) (hb hby d1_16) (by decide) k) ?_
        show own_Goes p e below s (own_F1 Z x0 h0) 0 0 (s₁.setTop (mkF m 18 #[.val (.int x0), .val (.int (x0 &&& (3 : Int32)))] [(.int (35 : Int32))]))
        exact own_endN X0 hx Bd.notSynchronized (t := .byte) Bd.returns (by simp) (hb hby d1_18) ⟨(congrArg (fun z => some (Value.int z)) (show (35 : Int32) = own_f1 x0 from by simp only [own_f1, if_neg hc1, if_pos hc2])), rfl, e0⟩ (by decide) (by decide)
      · refine own_Goes.step (fun t k => XS.icmpYes X0.here hx rfl (pc0 := 13) (pc' := 19) rfl (hb hby d1_13) rfl (XT.ii_ne_t hc2) (by decide) (by decide) k) ?_
        show own_Goes p e below s (own_F1 Z x0 h0) 0 0 (s₁.setTop (mkF m 19 #[.val (.int x0), .val (.int (x0 &&& (3 : Int32)))] []))
        refine own_Goes.step (fun t k => XS.iloadN X0.here hx rfl (hb hby d1_19) rfl k) ?_
        show own_Goes p e below s (own_F1 Z x0 h0) 0 0 (s₁.setTop (mkF m 20 #[.val (.int x0), .val (.int (x0 &&& (3 : Int32)))] [(.int (x0 &&& (3 : Int32)))]))
        refine own_Goes.step (fun t k => XT.iconstV X0.here hx rfl (2 : Int32) (hb hby d1_20) (by decide) k) ?_
        show own_Goes p e below s (own_F1 Z x0 h0) 0 0 (s₁.setTop (mkF m 21 #[.val (.int x0), .val (.int (x0 &&& (3 : Int32)))] [(.int (2 : Int32)), (.int (x0 &&& (3 : Int32)))]))
        by_cases hc3 : (x0 &&& (3 : Int32)) = (2 : Int32)
        · refine own_Goes.step (fun t k => XS.icmpNo X0.here hx rfl (hb hby d1_21) rfl (XT.ii_ne_f hc3) k) ?_
          show own_Goes p e below s (own_F1 Z x0 h0) 0 0 (s₁.setTop (mkF m 24 #[.val (.int x0), .val (.int (x0 &&& (3 : Int32)))] []))
          refine own_Goes.step (fun t k => XT.bipushV X0.here hx rfl (58 : Int32) (hb hby d1_24) (by decide) k) ?_
          show own_Goes p e below s (own_F1 Z x0 h0) 0 0 (s₁.setTop (mkF m 26 #[.val (.int x0), .val (.int (x0 &&& (3 : Int32)))] [(.int (58 : Int32))]))
          exact own_endN X0 hx Bd.notSynchronized (t := .byte) Bd.returns (by simp) (hb hby d1_26) ⟨(congrArg (fun z => some (Value.int z)) (show (58 : Int32) = own_f1 x0 from by simp only [own_f1, if_neg hc1, if_neg hc2, if_pos hc3])), rfl, e0⟩ (by decide) (by decide)
        · refine own_Goes.step (fun t k => XS.icmpYes X0.here hx rfl (pc0 := 21) (pc' := 27) rfl (hb hby d1_21) rfl (XT.ii_ne_t hc3) (by decide) (by decide) k) ?_
          show own_Goes p e below s (own_F1 Z x0 h0) 0 0 (s₁.setTop (mkF m 27 #[.val (.int x0), .val (.int (x0 &&& (3 : Int32)))] []))
          refine own_Goes.step (fun t k => XS.iloadN X0.here hx rfl (hb hby d1_27) rfl k) ?_
          show own_Goes p e below s (own_F1 Z x0 h0) 0 0 (s₁.setTop (mkF m 28 #[.val (.int x0), .val (.int (x0 &&& (3 : Int32)))] [(.int x0)]))
          refine own_Goes.step (fun t k => XT.iconstV X0.here hx rfl (2 : Int32) (hb hby d1_28) (by decide) k) ?_
          show own_Goes p e below s (own_F1 Z x0 h0) 0 0 (s₁.setTop (mkF m 29 #[.val (.int x0), .val (.int (x0 &&& (3 : Int32)))] [(.int (2 : Int32)), (.int x0)]))
          refine own_Goes.step (fun t k => XT.ishr X0.here hx rfl (hb hby d1_29) rfl k) ?_
          show own_Goes p e below s (own_F1 Z x0 h0) 0 0 (s₁.setTop (mkF m 30 #[.val (.int x0), .val (.int (x0 &&& (3 : Int32)))] [(.int (x0 >>> ((2 : Int32) &&& 31)))]))
          refine own_Goes.step (fun t k => XT.i2b X0.here hx rfl (hb hby d1_30) rfl k) ?_
          show own_Goes p e below s (own_F1 Z x0 h0) 0 0 (s₁.setTop (mkF m 31 #[.val (.int x0), .val (.int (x0 &&& (3 : Int32)))] [(.int ((x0 >>> ((2 : Int32) &&& 31)).toInt8.toInt32))]))
          exact own_endN X0 hx Bd.notSynchronized (t := .byte) Bd.returns (by simp) (hb hby d1_31) ⟨(congrArg (fun z => some (Value.int z)) (show (nar .byte ((x0 >>> ((2 : Int32) &&& 31)).toInt8.toInt32)) = own_f1 x0 from by simp only [own_f1, if_neg hc1, if_neg hc2, if_neg hc3])), rfl, e0⟩ (by decide) (by decide)
  obtain ⟨t2, o2, q1, q2, q3, q4⟩ := hgo
  exact ⟨t2, o2, castTop (ef_1 m x0) q1, q2, q3, q4⟩
theorem pn_0 : plainName "com/example/backtrail/backtrail/core/GraphLayoutNamespaceLengthPinLaw" = true := by first | (simp [plainName, overriddenIn]; done) | decide +kernel
theorem pd_0 : parseMethodDescriptor "(IIIII)Z" = some ⟨[.int, .int, .int, .int, .int], (some .boolean)⟩ := by decide +kernel
theorem ef_0 (m : MethodId) (x0 : Int32) (x1 : Int32) (x2 : Int32) (x3 : Int32) (x4 : Int32) : entryFrame m #[(.int x0), (.int x1), (.int x2), (.int x3), (.int x4)] maxLocals = mkF m 0 #[.val (.int x0), .val (.int x1), .val (.int x2), .val (.int x3), .val (.int x4), .unset, .unset, .unset, .unset, .unset, .unset, .unset] [] := by first | (simp [entryFrame, mkF, argsToLocals, Value.category, maxLocals]; done) | rfl
def own_f0_1 (x0 : Int32) (x1 : Int32) (x2 : Int32) (x3 : Int32) (x4 : Int32) : Nat → Int32 := fun j => if j = 0 then (nar .byte (own_f1 x1)) else (fun _ => (0 : Int32)) j
def own_f0_2 (x0 : Int32) (x1 : Int32) (x2 : Int32) (x3 : Int32) (x4 : Int32) : Nat → Int32 := fun j => if j = 1 then (nar .byte (own_f1 x2)) else (own_f0_1 x0 x1 x2 x3 x4) j
def own_f0_3 (x0 : Int32) (x1 : Int32) (x2 : Int32) (x3 : Int32) (x4 : Int32) : Nat → Int32 := fun j => if j = 2 then (nar .byte (own_f1 x3)) else (own_f0_2 x0 x1 x2 x3 x4) j
def own_f0_4 (x0 : Int32) (x1 : Int32) (x2 : Int32) (x3 : Int32) (x4 : Int32) : Nat → Int32 := fun j => if j = 3 then (nar .byte (own_f1 x4)) else (own_f0_3 x0 x1 x2 x3 x4) j
def own_f0_5 (x0 : Int32) (x1 : Int32) (x2 : Int32) (x3 : Int32) (x4 : Int32) : Int32 := (if (own_f3 (own_f1 x1)) = (0 : Int32) then (0 : Int32) else (1 : Int32))
def own_f0 (x0 : Int32) (x1 : Int32) (x2 : Int32) (x3 : Int32) (x4 : Int32) : Int32 := (if (0 : Int32) < ((x0 &&& (2147483647 : Int32)) % (5 : Int32)) then (if (1 : Int32) < ((x0 &&& (2147483647 : Int32)) % (5 : Int32)) then (if (2 : Int32) < ((x0 &&& (2147483647 : Int32)) % (5 : Int32)) then (if (3 : Int32) < ((x0 &&& (2147483647 : Int32)) % (5 : Int32)) then (if (own_f3 (own_f1 x4)) = (0 : Int32) then (if (own_f3 (own_f1 x3)) = (0 : Int32) then (if (own_f3 (own_f1 x2)) = (0 : Int32) then (if (own_nsl (own_f0_4 x0 x1 x2 x3 x4) (own_n x0)) = (own_f0_5 x0 x1 x2 x3 x4) then (1 : Int32) else (0 : Int32)) else (if (own_nsl (own_f0_4 x0 x1 x2 x3 x4) (own_n x0)) = (2 : Int32) then (1 : Int32) else (0 : Int32))) else (if (own_nsl (own_f0_4 x0 x1 x2 x3 x4) (own_n x0)) = (3 : Int32) then (1 : Int32) else (0 : Int32))) else (if (own_nsl (own_f0_4 x0 x1 x2 x3 x4) (own_n x0)) = (4 : Int32) then (1 : Int32) else (0 : Int32))) else (if (own_f3 (own_f1 x3)) = (0 : Int32) then (if (own_f3 (own_f1 x2)) = (0 : Int32) then (if (own_nsl (own_f0_3 x0 x1 x2 x3 x4) (own_n x0)) = (own_f0_5 x0 x1 x2 x3 x4) then (1 : Int32) else (0 : Int32)) else (if (own_nsl (own_f0_3 x0 x1 x2 x3 x4) (own_n x0)) = (2 : Int32) then (1 : Int32) else (0 : Int32))) else (if (own_nsl (own_f0_3 x0 x1 x2 x3 x4) (own_n x0)) = (3 : Int32) then (1 : Int32) else (0 : Int32)))) else (if (own_f3 (own_f1 x2)) = (0 : Int32) then (if (own_nsl (own_f0_2 x0 x1 x2 x3 x4) (own_n x0)) = (own_f0_5 x0 x1 x2 x3 x4) then (1 : Int32) else (0 : Int32)) else (if (own_nsl (own_f0_2 x0 x1 x2 x3 x4) (own_n x0)) = (2 : Int32) then (1 : Int32) else (0 : Int32)))) else (if (own_nsl (own_f0_1 x0 x1 x2 x3 x4) (own_n x0)) = (own_f0_5 x0 x1 x2 x3 x4) then (1 : Int32) else (0 : Int32))) else (if (own_nsl (fun _ => (0 : Int32)) (own_n x0)) = (0 : Int32) then (1 : Int32) else (0 : Int32)))
def own_F0 (Z : State) (x0 : Int32) (x1 : Int32) (x2 : Int32) (x3 : Int32) (x4 : Int32)  (n0 : Nat) (h0 : Heap) (v : Option Value) (h : Heap) (L : List Loc) : Prop := v = some (.int (own_f0 x0 x1 x2 x3 x4)) ∧ Fr n0 L
set_option maxRecDepth 65536 in
set_option maxHeartbeats 40000000 in
theorem own_m0 (l : Launch) (Z : State) (a0 : Array Value) (hw : ∀ d ∈ tables_1, d.before a0 Z = true) (ws : List Jvm.Cond) (x0 : Int32) (x1 : Int32) (x2 : Int32) (x3 : Int32) (x4 : Int32)  (n0 : Nat) (h0 : Heap) (Z0 : n0 ≤ h0.size)   :
    MetFree l x (head1 (Jvm.Cond.code x code maxLocals ret :: ws) room_1) (fun a U => a = #[(.int x0), (.int x1), (.int x2), (.int x3), (.int x4)] ∧ Z.Warmed39 U.vm ∧ U.heap = h0) (fun _ _ _ _ _ => True) (fun _ U o U' => ∃ v L, o = .returned v ∧ own_F0 Z x0 x1 x2 x3 x4 n0 h0 v U'.heap L ∧ FrameEnd U o U' L room_1.cells room_1.slots) := by
  refine MetFree.of_bodySF (plainFor_of_name pn_0) hisR ?_
  intro p e s m args below meth c s₁ Bd hml0 hP hK
  obtain ⟨rfl, hZ, hh⟩ := hP
  have hx := Bd.exec
  have hby := Bd.bytes
  have hml : c.maxLocals = 12 := hml0
  have hown : s.vm.findClass "com/example/backtrail/backtrail/core/GraphLayoutNamespaceLengthPinLaw" = some m.cls := findClass_of_methodNamed Bd.named
  have hnm := (name_of_methodNamed Bd.named Bd.method).1
  have X0 : Stand p l e room_1 s m #[(.int x0), (.int x1), (.int x2), (.int x3), (.int x4)] below meth c s₁ [] 0 0 := Stand.of_body Bd
  have e0 : s₁.heap = h0 := by rw [← hh, Bd.state]; rfl
  have N0 := Fr.nil n0
  have K0 : Keep h0 h0 [] := Keep.refl h0 []
  have hgo : own_Goes p e below s (own_F0 Z x0 x1 x2 x3 x4 n0 h0) room_1.cells room_1.slots (s₁.setTop (mkF m 0 #[.val (.int x0), .val (.int x1), .val (.int x2), .val (.int x3), .val (.int x4), .unset, .unset, .unset, .unset, .unset, .unset, .unset] [])) := by
    refine own_Goes.step (fun t k => XS.iloadN X0.here hx rfl (hb hby at_0) rfl k) ?_
    show own_Goes p e below s (own_F0 Z x0 x1 x2 x3 x4 n0 h0) room_1.cells room_1.slots (s₁.setTop (mkF m 1 #[.val (.int x0), .val (.int x1), .val (.int x2), .val (.int x3), .val (.int x4), .unset, .unset, .unset, .unset, .unset, .unset, .unset] [(.int x0)]))
    refine own_Goes.step (fun t k => X0.ldcI hx hown (mvT hZ (hw _ (List.mem_of_getElem? (i := 0) rfl))) rfl (hb hby at_1) k) ?_
    show own_Goes p e below s (own_F0 Z x0 x1 x2 x3 x4 n0 h0) room_1.cells room_1.slots (s₁.setTop (mkF m 3 #[.val (.int x0), .val (.int x1), .val (.int x2), .val (.int x3), .val (.int x4), .unset, .unset, .unset, .unset, .unset, .unset, .unset] [(.int (2147483647 : Int32)), (.int x0)]))
    refine own_Goes.step (fun t k => XS.iand X0.here hx rfl (hb hby at_3) rfl k) ?_
    show own_Goes p e below s (own_F0 Z x0 x1 x2 x3 x4 n0 h0) room_1.cells room_1.slots (s₁.setTop (mkF m 4 #[.val (.int x0), .val (.int x1), .val (.int x2), .val (.int x3), .val (.int x4), .unset, .unset, .unset, .unset, .unset, .unset, .unset] [(.int (x0 &&& (2147483647 : Int32)))]))
    refine own_Goes.step (fun t k => XT.iconstV X0.here hx rfl (5 : Int32) (hb hby at_4) (by decide) k) ?_
    show own_Goes p e below s (own_F0 Z x0 x1 x2 x3 x4 n0 h0) room_1.cells room_1.slots (s₁.setTop (mkF m 5 #[.val (.int x0), .val (.int x1), .val (.int x2), .val (.int x3), .val (.int x4), .unset, .unset, .unset, .unset, .unset, .unset, .unset] [(.int (5 : Int32)), (.int (x0 &&& (2147483647 : Int32)))]))
    refine own_Goes.step (fun t k => iremM X0 hx rfl (hb hby at_5) rfl (by decide) k) ?_
    show own_Goes p e below s (own_F0 Z x0 x1 x2 x3 x4 n0 h0) room_1.cells room_1.slots (s₁.setTop (mkF m 6 #[.val (.int x0), .val (.int x1), .val (.int x2), .val (.int x3), .val (.int x4), .unset, .unset, .unset, .unset, .unset, .unset, .unset] [(.int ((x0 &&& (2147483647 : Int32)) % (5 : Int32)))]))
    refine own_Goes.step (fun t k => XS.istore X0.here hx rfl (hb hby at_6) rfl (l' := #[.val (.int x0), .val (.int x1), .val (.int x2), .val (.int x3), .val (.int x4), .val (.int ((x0 &&& (2147483647 : Int32)) % (5 : Int32))), .unset, .unset, .unset, .unset, .unset, .unset]) rfl k) ?_
    show own_Goes p e below s (own_F0 Z x0 x1 x2 x3 x4 n0 h0) room_1.cells room_1.slots (s₁.setTop (mkF m 8 #[.val (.int x0), .val (.int x1), .val (.int x2), .val (.int x3), .val (.int x4), .val (.int ((x0 &&& (2147483647 : Int32)) % (5 : Int32))), .unset, .unset, .unset, .unset, .unset, .unset] []))
    refine own_Goes.step (fun t k => XS.iloadN X0.here hx rfl (hb hby at_8) rfl k) ?_
    show own_Goes p e below s (own_F0 Z x0 x1 x2 x3 x4 n0 h0) room_1.cells room_1.slots (s₁.setTop (mkF m 9 #[.val (.int x0), .val (.int x1), .val (.int x2), .val (.int x3), .val (.int x4), .val (.int ((x0 &&& (2147483647 : Int32)) % (5 : Int32))), .unset, .unset, .unset, .unset, .unset, .unset] [(.int x1)]))
    obtain ⟨w1, T1, L1, q1, Y1, st1⟩ := own_stat X0 hx hZ e0 hown (hw _ (List.mem_of_getElem? (i := 1) rfl)) (hw _ (List.mem_of_getElem? (i := 2) rfl)) (hw _ (List.mem_of_getElem? (i := 3) rfl)) (hw _ (List.mem_of_getElem? (i := 4) rfl)) (by decide) (own_m1 l Z a0 hw [] x1 h0 ) (by decide) (W := 0) (by decide) (by decide) (by decide) (g := (mkF m 9 #[.val (.int x0), .val (.int x1), .val (.int x2), .val (.int x3), .val (.int x4), .val (.int ((x0 &&& (2147483647 : Int32)) % (5 : Int32))), .unset, .unset, .unset, .unset, .unset, .unset] [(.int x1)])) rfl (by rw [hml]; rfl) (argsL := [(.int x1)]) (rest := []) (lenOf pd_1 rfl) rfl (by show 2 * 0 + _ ≤ _; exact Nat.le_of_eq rfl) (hb hby at_9)
    obtain ⟨e1, X1⟩ := own_clean q1 Y1 rfl rfl
    obtain ⟨rfl, -, -⟩ := q1
    refine own_Goes.step st1 ?_
    show own_Goes p e below s (own_F0 Z x0 x1 x2 x3 x4 n0 h0) room_1.cells room_1.slots (T1.setTop (mkF m 12 #[.val (.int x0), .val (.int x1), .val (.int x2), .val (.int x3), .val (.int x4), .val (.int ((x0 &&& (2147483647 : Int32)) % (5 : Int32))), .unset, .unset, .unset, .unset, .unset, .unset] [(.int (own_f1 x1))]))
    refine own_Goes.step (fun t k => XS.istore X1.here hx rfl (hb hby at_12) rfl (l' := #[.val (.int x0), .val (.int x1), .val (.int x2), .val (.int x3), .val (.int x4), .val (.int ((x0 &&& (2147483647 : Int32)) % (5 : Int32))), .val (.int (own_f1 x1)), .unset, .unset, .unset, .unset, .unset]) rfl k) ?_
    show own_Goes p e below s (own_F0 Z x0 x1 x2 x3 x4 n0 h0) room_1.cells room_1.slots (T1.setTop (mkF m 14 #[.val (.int x0), .val (.int x1), .val (.int x2), .val (.int x3), .val (.int x4), .val (.int ((x0 &&& (2147483647 : Int32)) % (5 : Int32))), .val (.int (own_f1 x1)), .unset, .unset, .unset, .unset, .unset] []))
    refine own_Goes.step (fun t k => XS.iloadN X1.here hx rfl (hb hby at_14) rfl k) ?_
    show own_Goes p e below s (own_F0 Z x0 x1 x2 x3 x4 n0 h0) room_1.cells room_1.slots (T1.setTop (mkF m 15 #[.val (.int x0), .val (.int x1), .val (.int x2), .val (.int x3), .val (.int x4), .val (.int ((x0 &&& (2147483647 : Int32)) % (5 : Int32))), .val (.int (own_f1 x1)), .unset, .unset, .unset, .unset, .unset] [(.int x2)]))
    obtain ⟨w2, T2, L2, q2, Y2, st2⟩ := own_stat X1 hx hZ e1 hown (hw _ (List.mem_of_getElem? (i := 1) rfl)) (hw _ (List.mem_of_getElem? (i := 2) rfl)) (hw _ (List.mem_of_getElem? (i := 3) rfl)) (hw _ (List.mem_of_getElem? (i := 4) rfl)) (by decide) (own_m1 l Z a0 hw [] x2 h0 ) (by decide) (W := 0) (by decide) (by decide) (by decide) (g := (mkF m 15 #[.val (.int x0), .val (.int x1), .val (.int x2), .val (.int x3), .val (.int x4), .val (.int ((x0 &&& (2147483647 : Int32)) % (5 : Int32))), .val (.int (own_f1 x1)), .unset, .unset, .unset, .unset, .unset] [(.int x2)])) rfl (by rw [hml]; rfl) (argsL := [(.int x2)]) (rest := []) (lenOf pd_1 rfl) rfl (by show 2 * 0 + _ ≤ _; exact Nat.le_of_eq rfl) (hb hby at_15)
    obtain ⟨e2, X2⟩ := own_clean q2 Y2 rfl rfl
    obtain ⟨rfl, -, -⟩ := q2
    refine own_Goes.step st2 ?_
    show own_Goes p e below s (own_F0 Z x0 x1 x2 x3 x4 n0 h0) room_1.cells room_1.slots (T2.setTop (mkF m 18 #[.val (.int x0), .val (.int x1), .val (.int x2), .val (.int x3), .val (.int x4), .val (.int ((x0 &&& (2147483647 : Int32)) % (5 : Int32))), .val (.int (own_f1 x1)), .unset, .unset, .unset, .unset, .unset] [(.int (own_f1 x2))]))
    refine own_Goes.step (fun t k => XS.istore X2.here hx rfl (hb hby at_18) rfl (l' := #[.val (.int x0), .val (.int x1), .val (.int x2), .val (.int x3), .val (.int x4), .val (.int ((x0 &&& (2147483647 : Int32)) % (5 : Int32))), .val (.int (own_f1 x1)), .val (.int (own_f1 x2)), .unset, .unset, .unset, .unset]) rfl k) ?_
    show own_Goes p e below s (own_F0 Z x0 x1 x2 x3 x4 n0 h0) room_1.cells room_1.slots (T2.setTop (mkF m 20 #[.val (.int x0), .val (.int x1), .val (.int x2), .val (.int x3), .val (.int x4), .val (.int ((x0 &&& (2147483647 : Int32)) % (5 : Int32))), .val (.int (own_f1 x1)), .val (.int (own_f1 x2)), .unset, .unset, .unset, .unset] []))
    refine own_Goes.step (fun t k => XS.iloadN X2.here hx rfl (hb hby at_20) rfl k) ?_
    show own_Goes p e below s (own_F0 Z x0 x1 x2 x3 x4 n0 h0) room_1.cells room_1.slots (T2.setTop (mkF m 21 #[.val (.int x0), .val (.int x1), .val (.int x2), .val (.int x3), .val (.int x4), .val (.int ((x0 &&& (2147483647 : Int32)) % (5 : Int32))), .val (.int (own_f1 x1)), .val (.int (own_f1 x2)), .unset, .unset, .unset, .unset] [(.int x3)]))
    obtain ⟨w3, T3, L3, q3, Y3, st3⟩ := own_stat X2 hx hZ e2 hown (hw _ (List.mem_of_getElem? (i := 1) rfl)) (hw _ (List.mem_of_getElem? (i := 2) rfl)) (hw _ (List.mem_of_getElem? (i := 3) rfl)) (hw _ (List.mem_of_getElem? (i := 4) rfl)) (by decide) (own_m1 l Z a0 hw [] x3 h0 ) (by decide) (W := 0) (by decide) (by decide) (by decide) (g := (mkF m 21 #[.val (.int x0), .val (.int x1), .val (.int x2), .val (.int x3), .val (.int x4), .val (.int ((x0 &&& (2147483647 : Int32)) % (5 : Int32))), .val (.int (own_f1 x1)), .val (.int (own_f1 x2)), .unset, .unset, .unset, .unset] [(.int x3)])) rfl (by rw [hml]; rfl) (argsL := [(.int x3)]) (rest := []) (lenOf pd_1 rfl) rfl (by show 2 * 0 + _ ≤ _; exact Nat.le_of_eq rfl) (hb hby at_21)
    obtain ⟨e3, X3⟩ := own_clean q3 Y3 rfl rfl
    obtain ⟨rfl, -, -⟩ := q3
    refine own_Goes.step st3 ?_
    show own_Goes p e below s (own_F0 Z x0 x1 x2 x3 x4 n0 h0) room_1.cells room_1.slots (T3.setTop (mkF m 24 #[.val (.int x0), .val (.int x1), .val (.int x2), .val (.int x3), .val (.int x4), .val (.int ((x0 &&& (2147483647 : Int32)) % (5 : Int32))), .val (.int (own_f1 x1)), .val (.int (own_f1 x2)), .unset, .unset, .unset, .unset] [(.int (own_f1 x3))]))
    refine own_Goes.step (fun t k => XS.istore X3.here hx rfl (hb hby at_24) rfl (l' := #[.val (.int x0), .val (.int x1), .val (.int x2), .val (.int x3), .val (.int x4), .val (.int ((x0 &&& (2147483647 : Int32)) % (5 : Int32))), .val (.int (own_f1 x1)), .val (.int (own_f1 x2)), .val (.int (own_f1 x3)), .unset, .unset, .unset]) rfl k) ?_
    show own_Goes p e below s (own_F0 Z x0 x1 x2 x3 x4 n0 h0) room_1.cells room_1.slots (T3.setTop (mkF m 26 #[.val (.int x0), .val (.int x1), .val (.int x2), .val (.int x3), .val (.int x4), .val (.int ((x0 &&& (2147483647 : Int32)) % (5 : Int32))), .val (.int (own_f1 x1)), .val (.int (own_f1 x2)), .val (.int (own_f1 x3)), .unset, .unset, .unset] []))
    refine own_Goes.step (fun t k => XS.iload X3.here hx rfl (hb hby at_26) rfl k) ?_
    show own_Goes p e below s (own_F0 Z x0 x1 x2 x3 x4 n0 h0) room_1.cells room_1.slots (T3.setTop (mkF m 28 #[.val (.int x0), .val (.int x1), .val (.int x2), .val (.int x3), .val (.int x4), .val (.int ((x0 &&& (2147483647 : Int32)) % (5 : Int32))), .val (.int (own_f1 x1)), .val (.int (own_f1 x2)), .val (.int (own_f1 x3)), .unset, .unset, .unset] [(.int x4)]))
    obtain ⟨w4, T4, L4, q4, Y4, st4⟩ := own_stat X3 hx hZ e3 hown (hw _ (List.mem_of_getElem? (i := 1) rfl)) (hw _ (List.mem_of_getElem? (i := 2) rfl)) (hw _ (List.mem_of_getElem? (i := 3) rfl)) (hw _ (List.mem_of_getElem? (i := 4) rfl)) (by decide) (own_m1 l Z a0 hw [] x4 h0 ) (by decide) (W := 0) (by decide) (by decide) (by decide) (g := (mkF m 28 #[.val (.int x0), .val (.int x1), .val (.int x2), .val (.int x3), .val (.int x4), .val (.int ((x0 &&& (2147483647 : Int32)) % (5 : Int32))), .val (.int (own_f1 x1)), .val (.int (own_f1 x2)), .val (.int (own_f1 x3)), .unset, .unset, .unset] [(.int x4)])) rfl (by rw [hml]; rfl) (argsL := [(.int x4)]) (rest := []) (lenOf pd_1 rfl) rfl (by show 2 * 0 + _ ≤ _; exact Nat.le_of_eq rfl) (hb hby at_28)
    obtain ⟨e4, X4⟩ := own_clean q4 Y4 rfl rfl
    obtain ⟨rfl, -, -⟩ := q4
    refine own_Goes.step st4 ?_
    show own_Goes p e below s (own_F0 Z x0 x1 x2 x3 x4 n0 h0) room_1.cells room_1.slots (T4.setTop (mkF m 31 #[.val (.int x0), .val (.int x1), .val (.int x2), .val (.int x3), .val (.int x4), .val (.int ((x0 &&& (2147483647 : Int32)) % (5 : Int32))), .val (.int (own_f1 x1)), .val (.int (own_f1 x2)), .val (.int (own_f1 x3)), .unset, .unset, .unset] [(.int (own_f1 x4))]))
    refine own_Goes.step (fun t k => XS.istore X4.here hx rfl (hb hby at_31) rfl (l' := #[.val (.int x0), .val (.int x1), .val (.int x2), .val (.int x3), .val (.int x4), .val (.int ((x0 &&& (2147483647 : Int32)) % (5 : Int32))), .val (.int (own_f1 x1)), .val (.int (own_f1 x2)), .val (.int (own_f1 x3)), .val (.int (own_f1 x4)), .unset, .unset]) rfl k) ?_
    show own_Goes p e below s (own_F0 Z x0 x1 x2 x3 x4 n0 h0) room_1.cells room_1.slots (T4.setTop (mkF m 33 #[.val (.int x0), .val (.int x1), .val (.int x2), .val (.int x3), .val (.int x4), .val (.int ((x0 &&& (2147483647 : Int32)) % (5 : Int32))), .val (.int (own_f1 x1)), .val (.int (own_f1 x2)), .val (.int (own_f1 x3)), .val (.int (own_f1 x4)), .unset, .unset] []))
    refine own_Goes.step (fun t k => XS.iload X4.here hx rfl (hb hby at_33) rfl k) ?_
    show own_Goes p e below s (own_F0 Z x0 x1 x2 x3 x4 n0 h0) room_1.cells room_1.slots (T4.setTop (mkF m 35 #[.val (.int x0), .val (.int x1), .val (.int x2), .val (.int x3), .val (.int x4), .val (.int ((x0 &&& (2147483647 : Int32)) % (5 : Int32))), .val (.int (own_f1 x1)), .val (.int (own_f1 x2)), .val (.int (own_f1 x3)), .val (.int (own_f1 x4)), .unset, .unset] [(.int ((x0 &&& (2147483647 : Int32)) % (5 : Int32)))]))
    obtain ⟨T5, h5, k5, X5, e5, E5, A5, st5⟩ := newP X4 hx hZ (hw _ (List.mem_of_getElem? (i := 5) rfl)) e4 (g := (mkF m 35 #[.val (.int x0), .val (.int x1), .val (.int x2), .val (.int x3), .val (.int x4), .val (.int ((x0 &&& (2147483647 : Int32)) % (5 : Int32))), .val (.int (own_f1 x1)), .val (.int (own_f1 x2)), .val (.int (own_f1 x3)), .val (.int (own_f1 x4)), .unset, .unset] [(.int ((x0 &&& (2147483647 : Int32)) % (5 : Int32)))])) rfl (hb hby at_35) rfl (own_nneg x0) (cap := 4) (by rw [own_idx (own_ne x0)]; exact own_n4 x0) (by decide) (by decide) (by decide)
    obtain ⟨a5, g5⟩ : ∃ z, z = h0.size := ⟨_, rfl⟩
    rw [← g5] at A5 st5
    have r5 : own_Ar Z h5 a5 .byte (own_n x0) (fun uu => .int ((fun _ => (0 : Int32)) uu)) := (own_idx (own_ne x0) ▸ own_Ar.new A5)
    have ga5 : n0 ≤ a5 := Nat.le_trans Z0 (Nat.le_of_eq g5.symm)
    have Z5 : n0 ≤ h5.size := Nat.le_trans Z0 E5.1
    have K5 := K0.ext E5
    have Kh5 : h0.size ≤ a5 := Nat.le_trans K0.1 (Nat.le_of_eq g5.symm)
    refine own_Goes.step st5 ?_
    show own_Goes p e below s (own_F0 Z x0 x1 x2 x3 x4 n0 h0) room_1.cells room_1.slots (T5.setTop (mkF m 37 #[.val (.int x0), .val (.int x1), .val (.int x2), .val (.int x3), .val (.int x4), .val (.int ((x0 &&& (2147483647 : Int32)) % (5 : Int32))), .val (.int (own_f1 x1)), .val (.int (own_f1 x2)), .val (.int (own_f1 x3)), .val (.int (own_f1 x4)), .unset, .unset] [(.ref a5)]))
    refine own_Goes.step (fun t k => XS.astore X5.here hx rfl (hb hby at_37) rfl rfl (l' := #[.val (.int x0), .val (.int x1), .val (.int x2), .val (.int x3), .val (.int x4), .val (.int ((x0 &&& (2147483647 : Int32)) % (5 : Int32))), .val (.int (own_f1 x1)), .val (.int (own_f1 x2)), .val (.int (own_f1 x3)), .val (.int (own_f1 x4)), .val (.ref a5), .unset]) rfl k) ?_
    show own_Goes p e below s (own_F0 Z x0 x1 x2 x3 x4 n0 h0) room_1.cells room_1.slots (T5.setTop (mkF m 39 #[.val (.int x0), .val (.int x1), .val (.int x2), .val (.int x3), .val (.int x4), .val (.int ((x0 &&& (2147483647 : Int32)) % (5 : Int32))), .val (.int (own_f1 x1)), .val (.int (own_f1 x2)), .val (.int (own_f1 x3)), .val (.int (own_f1 x4)), .val (.ref a5), .unset] []))
    refine own_Goes.step (fun t k => XS.iload X5.here hx rfl (hb hby at_39) rfl k) ?_
    show own_Goes p e below s (own_F0 Z x0 x1 x2 x3 x4 n0 h0) room_1.cells room_1.slots (T5.setTop (mkF m 41 #[.val (.int x0), .val (.int x1), .val (.int x2), .val (.int x3), .val (.int x4), .val (.int ((x0 &&& (2147483647 : Int32)) % (5 : Int32))), .val (.int (own_f1 x1)), .val (.int (own_f1 x2)), .val (.int (own_f1 x3)), .val (.int (own_f1 x4)), .val (.ref a5), .unset] [(.int ((x0 &&& (2147483647 : Int32)) % (5 : Int32)))]))
    by_cases hc6 : (0 : Int32) < ((x0 &&& (2147483647 : Int32)) % (5 : Int32))
    · refine own_Goes.step (fun t k => XS.ifNo X5.here hx rfl (hb hby at_41) rfl (XT.i0_le_f hc6) k) ?_
      show own_Goes p e below s (own_F0 Z x0 x1 x2 x3 x4 n0 h0) room_1.cells room_1.slots (T5.setTop (mkF m 44 #[.val (.int x0), .val (.int x1), .val (.int x2), .val (.int x3), .val (.int x4), .val (.int ((x0 &&& (2147483647 : Int32)) % (5 : Int32))), .val (.int (own_f1 x1)), .val (.int (own_f1 x2)), .val (.int (own_f1 x3)), .val (.int (own_f1 x4)), .val (.ref a5), .unset] []))
      refine own_Goes.step (fun t k => XS.aload X5.here hx rfl (hb hby at_44) rfl rfl k) ?_
      show own_Goes p e below s (own_F0 Z x0 x1 x2 x3 x4 n0 h0) room_1.cells room_1.slots (T5.setTop (mkF m 46 #[.val (.int x0), .val (.int x1), .val (.int x2), .val (.int x3), .val (.int x4), .val (.int ((x0 &&& (2147483647 : Int32)) % (5 : Int32))), .val (.int (own_f1 x1)), .val (.int (own_f1 x2)), .val (.int (own_f1 x3)), .val (.int (own_f1 x4)), .val (.ref a5), .unset] [(.ref a5)]))
      refine own_Goes.step (fun t k => XT.iconstV X5.here hx rfl (0 : Int32) (hb hby at_46) (by decide) k) ?_
      show own_Goes p e below s (own_F0 Z x0 x1 x2 x3 x4 n0 h0) room_1.cells room_1.slots (T5.setTop (mkF m 47 #[.val (.int x0), .val (.int x1), .val (.int x2), .val (.int x3), .val (.int x4), .val (.int ((x0 &&& (2147483647 : Int32)) % (5 : Int32))), .val (.int (own_f1 x1)), .val (.int (own_f1 x2)), .val (.int (own_f1 x3)), .val (.int (own_f1 x4)), .val (.ref a5), .unset] [(.int (0 : Int32)), (.ref a5)]))
      refine own_Goes.step (fun t k => XS.iload X5.here hx rfl (hb hby at_47) rfl k) ?_
      show own_Goes p e below s (own_F0 Z x0 x1 x2 x3 x4 n0 h0) room_1.cells room_1.slots (T5.setTop (mkF m 49 #[.val (.int x0), .val (.int x1), .val (.int x2), .val (.int x3), .val (.int x4), .val (.int ((x0 &&& (2147483647 : Int32)) % (5 : Int32))), .val (.int (own_f1 x1)), .val (.int (own_f1 x2)), .val (.int (own_f1 x3)), .val (.int (own_f1 x4)), .val (.ref a5), .unset] [(.int (own_f1 x1)), (.int (0 : Int32)), (.ref a5)]))
      obtain ⟨T7, h7, X7, e7, W7, st7⟩ := own_bast X5 hx hZ e5 r5 (i := 0) rfl (own_nin' (a := 0) rfl hc6) (g := (mkF m 49 #[.val (.int x0), .val (.int x1), .val (.int x2), .val (.int x3), .val (.int x4), .val (.int ((x0 &&& (2147483647 : Int32)) % (5 : Int32))), .val (.int (own_f1 x1)), .val (.int (own_f1 x2)), .val (.int (own_f1 x3)), .val (.int (own_f1 x4)), .val (.ref a5), .unset] [(.int (own_f1 x1)), (.int (0 : Int32)), (.ref a5)])) rfl rfl (hb hby at_49)
      refine own_Goes.step st7 ?_
      have f8 : own_Ar Z h7 a5 .byte (own_n x0) (fun uu => .int ((own_f0_1 x0 x1 x2 x3 x4) uu)) := (r5.set W7).congr fun j _ => by dsimp only [own_f0_1]; exact (apply_ite Value.int _ _ _).symm
      have K9 := K5.wr W7 (Or.inr Kh5)
      have N10 := Fr.snoc X7 N0 ga5
      have Z11 : n0 ≤ h7.size := Nat.le_trans Z5 (Keep.of_wr W7).1
      show own_Goes p e below s (own_F0 Z x0 x1 x2 x3 x4 n0 h0) room_1.cells room_1.slots (T7.setTop (mkF m 50 #[.val (.int x0), .val (.int x1), .val (.int x2), .val (.int x3), .val (.int x4), .val (.int ((x0 &&& (2147483647 : Int32)) % (5 : Int32))), .val (.int (own_f1 x1)), .val (.int (own_f1 x2)), .val (.int (own_f1 x3)), .val (.int (own_f1 x4)), .val (.ref a5), .unset] []))
      refine own_Goes.step (fun t k => XS.iload X7.here hx rfl (hb hby at_50) rfl k) ?_
      show own_Goes p e below s (own_F0 Z x0 x1 x2 x3 x4 n0 h0) room_1.cells room_1.slots (T7.setTop (mkF m 52 #[.val (.int x0), .val (.int x1), .val (.int x2), .val (.int x3), .val (.int x4), .val (.int ((x0 &&& (2147483647 : Int32)) % (5 : Int32))), .val (.int (own_f1 x1)), .val (.int (own_f1 x2)), .val (.int (own_f1 x3)), .val (.int (own_f1 x4)), .val (.ref a5), .unset] [(.int ((x0 &&& (2147483647 : Int32)) % (5 : Int32)))]))
      refine own_Goes.step (fun t k => XT.iconstV X7.here hx rfl (1 : Int32) (hb hby at_52) (by decide) k) ?_
      show own_Goes p e below s (own_F0 Z x0 x1 x2 x3 x4 n0 h0) room_1.cells room_1.slots (T7.setTop (mkF m 53 #[.val (.int x0), .val (.int x1), .val (.int x2), .val (.int x3), .val (.int x4), .val (.int ((x0 &&& (2147483647 : Int32)) % (5 : Int32))), .val (.int (own_f1 x1)), .val (.int (own_f1 x2)), .val (.int (own_f1 x3)), .val (.int (own_f1 x4)), .val (.ref a5), .unset] [(.int (1 : Int32)), (.int ((x0 &&& (2147483647 : Int32)) % (5 : Int32)))]))
      by_cases hc12 : (1 : Int32) < ((x0 &&& (2147483647 : Int32)) % (5 : Int32))
      · refine own_Goes.step (fun t k => XS.icmpNo X7.here hx rfl (hb hby at_53) rfl (XT.ii_le_f hc12) k) ?_
        show own_Goes p e below s (own_F0 Z x0 x1 x2 x3 x4 n0 h0) room_1.cells room_1.slots (T7.setTop (mkF m 56 #[.val (.int x0), .val (.int x1), .val (.int x2), .val (.int x3), .val (.int x4), .val (.int ((x0 &&& (2147483647 : Int32)) % (5 : Int32))), .val (.int (own_f1 x1)), .val (.int (own_f1 x2)), .val (.int (own_f1 x3)), .val (.int (own_f1 x4)), .val (.ref a5), .unset] []))
        refine own_Goes.step (fun t k => XS.aload X7.here hx rfl (hb hby at_56) rfl rfl k) ?_
        show own_Goes p e below s (own_F0 Z x0 x1 x2 x3 x4 n0 h0) room_1.cells room_1.slots (T7.setTop (mkF m 58 #[.val (.int x0), .val (.int x1), .val (.int x2), .val (.int x3), .val (.int x4), .val (.int ((x0 &&& (2147483647 : Int32)) % (5 : Int32))), .val (.int (own_f1 x1)), .val (.int (own_f1 x2)), .val (.int (own_f1 x3)), .val (.int (own_f1 x4)), .val (.ref a5), .unset] [(.ref a5)]))
        refine own_Goes.step (fun t k => XT.iconstV X7.here hx rfl (1 : Int32) (hb hby at_58) (by decide) k) ?_
        show own_Goes p e below s (own_F0 Z x0 x1 x2 x3 x4 n0 h0) room_1.cells room_1.slots (T7.setTop (mkF m 59 #[.val (.int x0), .val (.int x1), .val (.int x2), .val (.int x3), .val (.int x4), .val (.int ((x0 &&& (2147483647 : Int32)) % (5 : Int32))), .val (.int (own_f1 x1)), .val (.int (own_f1 x2)), .val (.int (own_f1 x3)), .val (.int (own_f1 x4)), .val (.ref a5), .unset] [(.int (1 : Int32)), (.ref a5)]))
        refine own_Goes.step (fun t k => XS.iload X7.here hx rfl (hb hby at_59) rfl k) ?_
        show own_Goes p e below s (own_F0 Z x0 x1 x2 x3 x4 n0 h0) room_1.cells room_1.slots (T7.setTop (mkF m 61 #[.val (.int x0), .val (.int x1), .val (.int x2), .val (.int x3), .val (.int x4), .val (.int ((x0 &&& (2147483647 : Int32)) % (5 : Int32))), .val (.int (own_f1 x1)), .val (.int (own_f1 x2)), .val (.int (own_f1 x3)), .val (.int (own_f1 x4)), .val (.ref a5), .unset] [(.int (own_f1 x2)), (.int (1 : Int32)), (.ref a5)]))
        obtain ⟨T13, h13, X13, e13, W13, st13⟩ := own_bast X7 hx hZ e7 f8 (i := 1) rfl (own_nin' (a := 1) rfl hc12) (g := (mkF m 61 #[.val (.int x0), .val (.int x1), .val (.int x2), .val (.int x3), .val (.int x4), .val (.int ((x0 &&& (2147483647 : Int32)) % (5 : Int32))), .val (.int (own_f1 x1)), .val (.int (own_f1 x2)), .val (.int (own_f1 x3)), .val (.int (own_f1 x4)), .val (.ref a5), .unset] [(.int (own_f1 x2)), (.int (1 : Int32)), (.ref a5)])) rfl rfl (hb hby at_61)
        refine own_Goes.step st13 ?_
        have f14 : own_Ar Z h13 a5 .byte (own_n x0) (fun uu => .int ((own_f0_2 x0 x1 x2 x3 x4) uu)) := (f8.set W13).congr fun j _ => by dsimp only [own_f0_2]; exact (apply_ite Value.int _ _ _).symm
        have K15 := K9.wr W13 (Or.inr Kh5)
        have N16 := Fr.snoc X13 N10 ga5
        have Z17 : n0 ≤ h13.size := Nat.le_trans Z11 (Keep.of_wr W13).1
        show own_Goes p e below s (own_F0 Z x0 x1 x2 x3 x4 n0 h0) room_1.cells room_1.slots (T13.setTop (mkF m 62 #[.val (.int x0), .val (.int x1), .val (.int x2), .val (.int x3), .val (.int x4), .val (.int ((x0 &&& (2147483647 : Int32)) % (5 : Int32))), .val (.int (own_f1 x1)), .val (.int (own_f1 x2)), .val (.int (own_f1 x3)), .val (.int (own_f1 x4)), .val (.ref a5), .unset] []))
        refine own_Goes.step (fun t k => XS.iload X13.here hx rfl (hb hby at_62) rfl k) ?_
        show own_Goes p e below s (own_F0 Z x0 x1 x2 x3 x4 n0 h0) room_1.cells room_1.slots (T13.setTop (mkF m 64 #[.val (.int x0), .val (.int x1), .val (.int x2), .val (.int x3), .val (.int x4), .val (.int ((x0 &&& (2147483647 : Int32)) % (5 : Int32))), .val (.int (own_f1 x1)), .val (.int (own_f1 x2)), .val (.int (own_f1 x3)), .val (.int (own_f1 x4)), .val (.ref a5), .unset] [(.int ((x0 &&& (2147483647 : Int32)) % (5 : Int32)))]))
        refine own_Goes.step (fun t k => XT.iconstV X13.here hx rfl (2 : Int32) (hb hby at_64) (by decide) k) ?_
        show own_Goes p e below s (own_F0 Z x0 x1 x2 x3 x4 n0 h0) room_1.cells room_1.slots (T13.setTop (mkF m 65 #[.val (.int x0), .val (.int x1), .val (.int x2), .val (.int x3), .val (.int x4), .val (.int ((x0 &&& (2147483647 : Int32)) % (5 : Int32))), .val (.int (own_f1 x1)), .val (.int (own_f1 x2)), .val (.int (own_f1 x3)), .val (.int (own_f1 x4)), .val (.ref a5), .unset] [(.int (2 : Int32)), (.int ((x0 &&& (2147483647 : Int32)) % (5 : Int32)))]))
        by_cases hc18 : (2 : Int32) < ((x0 &&& (2147483647 : Int32)) % (5 : Int32))
        · refine own_Goes.step (fun t k => XS.icmpNo X13.here hx rfl (hb hby at_65) rfl (XT.ii_le_f hc18) k) ?_
          show own_Goes p e below s (own_F0 Z x0 x1 x2 x3 x4 n0 h0) room_1.cells room_1.slots (T13.setTop (mkF m 68 #[.val (.int x0), .val (.int x1), .val (.int x2), .val (.int x3), .val (.int x4), .val (.int ((x0 &&& (2147483647 : Int32)) % (5 : Int32))), .val (.int (own_f1 x1)), .val (.int (own_f1 x2)), .val (.int (own_f1 x3)), .val (.int (own_f1 x4)), .val (.ref a5), .unset] []))
          refine own_Goes.step (fun t k => XS.aload X13.here hx rfl (hb hby at_68) rfl rfl k) ?_
          show own_Goes p e below s (own_F0 Z x0 x1 x2 x3 x4 n0 h0) room_1.cells room_1.slots (T13.setTop (mkF m 70 #[.val (.int x0), .val (.int x1), .val (.int x2), .val (.int x3), .val (.int x4), .val (.int ((x0 &&& (2147483647 : Int32)) % (5 : Int32))), .val (.int (own_f1 x1)), .val (.int (own_f1 x2)), .val (.int (own_f1 x3)), .val (.int (own_f1 x4)), .val (.ref a5), .unset] [(.ref a5)]))
          refine own_Goes.step (fun t k => XT.iconstV X13.here hx rfl (2 : Int32) (hb hby at_70) (by decide) k) ?_
          show own_Goes p e below s (own_F0 Z x0 x1 x2 x3 x4 n0 h0) room_1.cells room_1.slots (T13.setTop (mkF m 71 #[.val (.int x0), .val (.int x1), .val (.int x2), .val (.int x3), .val (.int x4), .val (.int ((x0 &&& (2147483647 : Int32)) % (5 : Int32))), .val (.int (own_f1 x1)), .val (.int (own_f1 x2)), .val (.int (own_f1 x3)), .val (.int (own_f1 x4)), .val (.ref a5), .unset] [(.int (2 : Int32)), (.ref a5)]))
          refine own_Goes.step (fun t k => XS.iload X13.here hx rfl (hb hby at_71) rfl k) ?_
          show own_Goes p e below s (own_F0 Z x0 x1 x2 x3 x4 n0 h0) room_1.cells room_1.slots (T13.setTop (mkF m 73 #[.val (.int x0), .val (.int x1), .val (.int x2), .val (.int x3), .val (.int x4), .val (.int ((x0 &&& (2147483647 : Int32)) % (5 : Int32))), .val (.int (own_f1 x1)), .val (.int (own_f1 x2)), .val (.int (own_f1 x3)), .val (.int (own_f1 x4)), .val (.ref a5), .unset] [(.int (own_f1 x3)), (.int (2 : Int32)), (.ref a5)]))
          obtain ⟨T19, h19, X19, e19, W19, st19⟩ := own_bast X13 hx hZ e13 f14 (i := 2) rfl (own_nin' (a := 2) rfl hc18) (g := (mkF m 73 #[.val (.int x0), .val (.int x1), .val (.int x2), .val (.int x3), .val (.int x4), .val (.int ((x0 &&& (2147483647 : Int32)) % (5 : Int32))), .val (.int (own_f1 x1)), .val (.int (own_f1 x2)), .val (.int (own_f1 x3)), .val (.int (own_f1 x4)), .val (.ref a5), .unset] [(.int (own_f1 x3)), (.int (2 : Int32)), (.ref a5)])) rfl rfl (hb hby at_73)
          refine own_Goes.step st19 ?_
          have f20 : own_Ar Z h19 a5 .byte (own_n x0) (fun uu => .int ((own_f0_3 x0 x1 x2 x3 x4) uu)) := (f14.set W19).congr fun j _ => by dsimp only [own_f0_3]; exact (apply_ite Value.int _ _ _).symm
          have K21 := K15.wr W19 (Or.inr Kh5)
          have N22 := Fr.snoc X19 N16 ga5
          have Z23 : n0 ≤ h19.size := Nat.le_trans Z17 (Keep.of_wr W19).1
          show own_Goes p e below s (own_F0 Z x0 x1 x2 x3 x4 n0 h0) room_1.cells room_1.slots (T19.setTop (mkF m 74 #[.val (.int x0), .val (.int x1), .val (.int x2), .val (.int x3), .val (.int x4), .val (.int ((x0 &&& (2147483647 : Int32)) % (5 : Int32))), .val (.int (own_f1 x1)), .val (.int (own_f1 x2)), .val (.int (own_f1 x3)), .val (.int (own_f1 x4)), .val (.ref a5), .unset] []))
          refine own_Goes.step (fun t k => XS.iload X19.here hx rfl (hb hby at_74) rfl k) ?_
          show own_Goes p e below s (own_F0 Z x0 x1 x2 x3 x4 n0 h0) room_1.cells room_1.slots (T19.setTop (mkF m 76 #[.val (.int x0), .val (.int x1), .val (.int x2), .val (.int x3), .val (.int x4), .val (.int ((x0 &&& (2147483647 : Int32)) % (5 : Int32))), .val (.int (own_f1 x1)), .val (.int (own_f1 x2)), .val (.int (own_f1 x3)), .val (.int (own_f1 x4)), .val (.ref a5), .unset] [(.int ((x0 &&& (2147483647 : Int32)) % (5 : Int32)))]))
          refine own_Goes.step (fun t k => XT.iconstV X19.here hx rfl (3 : Int32) (hb hby at_76) (by decide) k) ?_
          show own_Goes p e below s (own_F0 Z x0 x1 x2 x3 x4 n0 h0) room_1.cells room_1.slots (T19.setTop (mkF m 77 #[.val (.int x0), .val (.int x1), .val (.int x2), .val (.int x3), .val (.int x4), .val (.int ((x0 &&& (2147483647 : Int32)) % (5 : Int32))), .val (.int (own_f1 x1)), .val (.int (own_f1 x2)), .val (.int (own_f1 x3)), .val (.int (own_f1 x4)), .val (.ref a5), .unset] [(.int (3 : Int32)), (.int ((x0 &&& (2147483647 : Int32)) % (5 : Int32)))]))
          by_cases hc24 : (3 : Int32) < ((x0 &&& (2147483647 : Int32)) % (5 : Int32))
          · refine own_Goes.step (fun t k => XS.icmpNo X19.here hx rfl (hb hby at_77) rfl (XT.ii_le_f hc24) k) ?_
            show own_Goes p e below s (own_F0 Z x0 x1 x2 x3 x4 n0 h0) room_1.cells room_1.slots (T19.setTop (mkF m 80 #[.val (.int x0), .val (.int x1), .val (.int x2), .val (.int x3), .val (.int x4), .val (.int ((x0 &&& (2147483647 : Int32)) % (5 : Int32))), .val (.int (own_f1 x1)), .val (.int (own_f1 x2)), .val (.int (own_f1 x3)), .val (.int (own_f1 x4)), .val (.ref a5), .unset] []))
            refine own_Goes.step (fun t k => XS.aload X19.here hx rfl (hb hby at_80) rfl rfl k) ?_
            show own_Goes p e below s (own_F0 Z x0 x1 x2 x3 x4 n0 h0) room_1.cells room_1.slots (T19.setTop (mkF m 82 #[.val (.int x0), .val (.int x1), .val (.int x2), .val (.int x3), .val (.int x4), .val (.int ((x0 &&& (2147483647 : Int32)) % (5 : Int32))), .val (.int (own_f1 x1)), .val (.int (own_f1 x2)), .val (.int (own_f1 x3)), .val (.int (own_f1 x4)), .val (.ref a5), .unset] [(.ref a5)]))
            refine own_Goes.step (fun t k => XT.iconstV X19.here hx rfl (3 : Int32) (hb hby at_82) (by decide) k) ?_
            show own_Goes p e below s (own_F0 Z x0 x1 x2 x3 x4 n0 h0) room_1.cells room_1.slots (T19.setTop (mkF m 83 #[.val (.int x0), .val (.int x1), .val (.int x2), .val (.int x3), .val (.int x4), .val (.int ((x0 &&& (2147483647 : Int32)) % (5 : Int32))), .val (.int (own_f1 x1)), .val (.int (own_f1 x2)), .val (.int (own_f1 x3)), .val (.int (own_f1 x4)), .val (.ref a5), .unset] [(.int (3 : Int32)), (.ref a5)]))
            refine own_Goes.step (fun t k => XS.iload X19.here hx rfl (hb hby at_83) rfl k) ?_
            show own_Goes p e below s (own_F0 Z x0 x1 x2 x3 x4 n0 h0) room_1.cells room_1.slots (T19.setTop (mkF m 85 #[.val (.int x0), .val (.int x1), .val (.int x2), .val (.int x3), .val (.int x4), .val (.int ((x0 &&& (2147483647 : Int32)) % (5 : Int32))), .val (.int (own_f1 x1)), .val (.int (own_f1 x2)), .val (.int (own_f1 x3)), .val (.int (own_f1 x4)), .val (.ref a5), .unset] [(.int (own_f1 x4)), (.int (3 : Int32)), (.ref a5)]))
            obtain ⟨T25, h25, X25, e25, W25, st25⟩ := own_bast X19 hx hZ e19 f20 (i := 3) rfl (own_nin' (a := 3) rfl hc24) (g := (mkF m 85 #[.val (.int x0), .val (.int x1), .val (.int x2), .val (.int x3), .val (.int x4), .val (.int ((x0 &&& (2147483647 : Int32)) % (5 : Int32))), .val (.int (own_f1 x1)), .val (.int (own_f1 x2)), .val (.int (own_f1 x3)), .val (.int (own_f1 x4)), .val (.ref a5), .unset] [(.int (own_f1 x4)), (.int (3 : Int32)), (.ref a5)])) rfl rfl (hb hby at_85)
            refine own_Goes.step st25 ?_
            have f26 : own_Ar Z h25 a5 .byte (own_n x0) (fun uu => .int ((own_f0_4 x0 x1 x2 x3 x4) uu)) := (f20.set W25).congr fun j _ => by dsimp only [own_f0_4]; exact (apply_ite Value.int _ _ _).symm
            have K27 := K21.wr W25 (Or.inr Kh5)
            have N28 := Fr.snoc X25 N22 ga5
            have Z29 : n0 ≤ h25.size := Nat.le_trans Z23 (Keep.of_wr W25).1
            show own_Goes p e below s (own_F0 Z x0 x1 x2 x3 x4 n0 h0) room_1.cells room_1.slots (T25.setTop (mkF m 86 #[.val (.int x0), .val (.int x1), .val (.int x2), .val (.int x3), .val (.int x4), .val (.int ((x0 &&& (2147483647 : Int32)) % (5 : Int32))), .val (.int (own_f1 x1)), .val (.int (own_f1 x2)), .val (.int (own_f1 x3)), .val (.int (own_f1 x4)), .val (.ref a5), .unset] []))
            refine own_Goes.step (fun t k => XS.iload X25.here hx rfl (hb hby at_86) rfl k) ?_
            show own_Goes p e below s (own_F0 Z x0 x1 x2 x3 x4 n0 h0) room_1.cells room_1.slots (T25.setTop (mkF m 88 #[.val (.int x0), .val (.int x1), .val (.int x2), .val (.int x3), .val (.int x4), .val (.int ((x0 &&& (2147483647 : Int32)) % (5 : Int32))), .val (.int (own_f1 x1)), .val (.int (own_f1 x2)), .val (.int (own_f1 x3)), .val (.int (own_f1 x4)), .val (.ref a5), .unset] [(.int ((x0 &&& (2147483647 : Int32)) % (5 : Int32)))]))
            refine own_Goes.step (fun t k => XT.iconstV X25.here hx rfl (4 : Int32) (hb hby at_88) (by decide) k) ?_
            show own_Goes p e below s (own_F0 Z x0 x1 x2 x3 x4 n0 h0) room_1.cells room_1.slots (T25.setTop (mkF m 89 #[.val (.int x0), .val (.int x1), .val (.int x2), .val (.int x3), .val (.int x4), .val (.int ((x0 &&& (2147483647 : Int32)) % (5 : Int32))), .val (.int (own_f1 x1)), .val (.int (own_f1 x2)), .val (.int (own_f1 x3)), .val (.int (own_f1 x4)), .val (.ref a5), .unset] [(.int (4 : Int32)), (.int ((x0 &&& (2147483647 : Int32)) % (5 : Int32)))]))
            refine own_Goes.step (fun t k => XS.icmpNo X25.here hx rfl (hb hby at_89) rfl (XT.ii_lt_f (own_geb (by decide) hc24)) k) ?_
            show own_Goes p e below s (own_F0 Z x0 x1 x2 x3 x4 n0 h0) room_1.cells room_1.slots (T25.setTop (mkF m 92 #[.val (.int x0), .val (.int x1), .val (.int x2), .val (.int x3), .val (.int x4), .val (.int ((x0 &&& (2147483647 : Int32)) % (5 : Int32))), .val (.int (own_f1 x1)), .val (.int (own_f1 x2)), .val (.int (own_f1 x3)), .val (.int (own_f1 x4)), .val (.ref a5), .unset] []))
            refine own_Goes.step (fun t k => XS.iload X25.here hx rfl (hb hby at_92) rfl k) ?_
            show own_Goes p e below s (own_F0 Z x0 x1 x2 x3 x4 n0 h0) room_1.cells room_1.slots (T25.setTop (mkF m 94 #[.val (.int x0), .val (.int x1), .val (.int x2), .val (.int x3), .val (.int x4), .val (.int ((x0 &&& (2147483647 : Int32)) % (5 : Int32))), .val (.int (own_f1 x1)), .val (.int (own_f1 x2)), .val (.int (own_f1 x3)), .val (.int (own_f1 x4)), .val (.ref a5), .unset] [(.int (own_f1 x4))]))
            obtain ⟨w30, T30, L30, q30, Y30, st30⟩ := own_stat X25 hx hZ e25 hown (hw _ (List.mem_of_getElem? (i := 10) rfl)) (hw _ (List.mem_of_getElem? (i := 11) rfl)) (hw _ (List.mem_of_getElem? (i := 3) rfl)) (hw _ (List.mem_of_getElem? (i := 12) rfl)) (by decide) (own_m3 l Z a0 hw [] (own_f1 x4) h25 ) (by decide) (W := 0) (by decide) (by decide) (by decide) (g := (mkF m 94 #[.val (.int x0), .val (.int x1), .val (.int x2), .val (.int x3), .val (.int x4), .val (.int ((x0 &&& (2147483647 : Int32)) % (5 : Int32))), .val (.int (own_f1 x1)), .val (.int (own_f1 x2)), .val (.int (own_f1 x3)), .val (.int (own_f1 x4)), .val (.ref a5), .unset] [(.int (own_f1 x4))])) rfl (by rw [hml]; rfl) (argsL := [(.int (own_f1 x4))]) (rest := []) (lenOf pd_3 rfl) rfl (by show 2 * 0 + _ ≤ _; exact Nat.le_of_eq rfl) (hb hby at_94)
            obtain ⟨e30, X30⟩ := own_clean q30 Y30 rfl rfl
            obtain ⟨rfl, -, -⟩ := q30
            refine own_Goes.step st30 ?_
            show own_Goes p e below s (own_F0 Z x0 x1 x2 x3 x4 n0 h0) room_1.cells room_1.slots (T30.setTop (mkF m 97 #[.val (.int x0), .val (.int x1), .val (.int x2), .val (.int x3), .val (.int x4), .val (.int ((x0 &&& (2147483647 : Int32)) % (5 : Int32))), .val (.int (own_f1 x1)), .val (.int (own_f1 x2)), .val (.int (own_f1 x3)), .val (.int (own_f1 x4)), .val (.ref a5), .unset] [(.int (own_f3 (own_f1 x4)))]))
            by_cases hc31 : (own_f3 (own_f1 x4)) = (0 : Int32)
            · refine own_Goes.step (fun t k => XS.ifYes X30.here hx rfl (pc0 := 97) (pc' := 106) rfl (hb hby at_97) rfl (XT.i0_eq_t hc31) (by decide) (by decide) k) ?_
              show own_Goes p e below s (own_F0 Z x0 x1 x2 x3 x4 n0 h0) room_1.cells room_1.slots (T30.setTop (mkF m 106 #[.val (.int x0), .val (.int x1), .val (.int x2), .val (.int x3), .val (.int x4), .val (.int ((x0 &&& (2147483647 : Int32)) % (5 : Int32))), .val (.int (own_f1 x1)), .val (.int (own_f1 x2)), .val (.int (own_f1 x3)), .val (.int (own_f1 x4)), .val (.ref a5), .unset] []))
              refine own_Goes.step (fun t k => XS.iload X30.here hx rfl (hb hby at_106) rfl k) ?_
              show own_Goes p e below s (own_F0 Z x0 x1 x2 x3 x4 n0 h0) room_1.cells room_1.slots (T30.setTop (mkF m 108 #[.val (.int x0), .val (.int x1), .val (.int x2), .val (.int x3), .val (.int x4), .val (.int ((x0 &&& (2147483647 : Int32)) % (5 : Int32))), .val (.int (own_f1 x1)), .val (.int (own_f1 x2)), .val (.int (own_f1 x3)), .val (.int (own_f1 x4)), .val (.ref a5), .unset] [(.int ((x0 &&& (2147483647 : Int32)) % (5 : Int32)))]))
              refine own_Goes.step (fun t k => XT.iconstV X30.here hx rfl (3 : Int32) (hb hby at_108) (by decide) k) ?_
              show own_Goes p e below s (own_F0 Z x0 x1 x2 x3 x4 n0 h0) room_1.cells room_1.slots (T30.setTop (mkF m 109 #[.val (.int x0), .val (.int x1), .val (.int x2), .val (.int x3), .val (.int x4), .val (.int ((x0 &&& (2147483647 : Int32)) % (5 : Int32))), .val (.int (own_f1 x1)), .val (.int (own_f1 x2)), .val (.int (own_f1 x3)), .val (.int (own_f1 x4)), .val (.ref a5), .unset] [(.int (3 : Int32)), (.int ((x0 &&& (2147483647 : Int32)) % (5 : Int32)))]))
              refine own_Goes.step (fun t k => XS.icmpNo X30.here hx rfl (hb hby at_109) rfl (XT.ii_lt_f (own_geb (by decide) hc18)) k) ?_
              show own_Goes p e below s (own_F0 Z x0 x1 x2 x3 x4 n0 h0) room_1.cells room_1.slots (T30.setTop (mkF m 112 #[.val (.int x0), .val (.int x1), .val (.int x2), .val (.int x3), .val (.int x4), .val (.int ((x0 &&& (2147483647 : Int32)) % (5 : Int32))), .val (.int (own_f1 x1)), .val (.int (own_f1 x2)), .val (.int (own_f1 x3)), .val (.int (own_f1 x4)), .val (.ref a5), .unset] []))
              refine own_Goes.step (fun t k => XS.iload X30.here hx rfl (hb hby at_112) rfl k) ?_
              show own_Goes p e below s (own_F0 Z x0 x1 x2 x3 x4 n0 h0) room_1.cells room_1.slots (T30.setTop (mkF m 114 #[.val (.int x0), .val (.int x1), .val (.int x2), .val (.int x3), .val (.int x4), .val (.int ((x0 &&& (2147483647 : Int32)) % (5 : Int32))), .val (.int (own_f1 x1)), .val (.int (own_f1 x2)), .val (.int (own_f1 x3)), .val (.int (own_f1 x4)), .val (.ref a5), .unset] [(.int (own_f1 x3))]))
              obtain ⟨w32, T32, L32, q32, Y32, st32⟩ := own_stat X30 hx hZ e30 hown (hw _ (List.mem_of_getElem? (i := 10) rfl)) (hw _ (List.mem_of_getElem? (i := 11) rfl)) (hw _ (List.mem_of_getElem? (i := 3) rfl)) (hw _ (List.mem_of_getElem? (i := 12) rfl)) (by decide) (own_m3 l Z a0 hw [] (own_f1 x3) h25 ) (by decide) (W := 0) (by decide) (by decide) (by decide) (g := (mkF m 114 #[.val (.int x0), .val (.int x1), .val (.int x2), .val (.int x3), .val (.int x4), .val (.int ((x0 &&& (2147483647 : Int32)) % (5 : Int32))), .val (.int (own_f1 x1)), .val (.int (own_f1 x2)), .val (.int (own_f1 x3)), .val (.int (own_f1 x4)), .val (.ref a5), .unset] [(.int (own_f1 x3))])) rfl (by rw [hml]; rfl) (argsL := [(.int (own_f1 x3))]) (rest := []) (lenOf pd_3 rfl) rfl (by show 2 * 0 + _ ≤ _; exact Nat.le_of_eq rfl) (hb hby at_114)
              obtain ⟨e32, X32⟩ := own_clean q32 Y32 rfl rfl
              obtain ⟨rfl, -, -⟩ := q32
              refine own_Goes.step st32 ?_
              show own_Goes p e below s (own_F0 Z x0 x1 x2 x3 x4 n0 h0) room_1.cells room_1.slots (T32.setTop (mkF m 117 #[.val (.int x0), .val (.int x1), .val (.int x2), .val (.int x3), .val (.int x4), .val (.int ((x0 &&& (2147483647 : Int32)) % (5 : Int32))), .val (.int (own_f1 x1)), .val (.int (own_f1 x2)), .val (.int (own_f1 x3)), .val (.int (own_f1 x4)), .val (.ref a5), .unset] [(.int (own_f3 (own_f1 x3)))]))
              by_cases hc33 : (own_f3 (own_f1 x3)) = (0 : Int32)
              · refine own_Goes.step (fun t k => XS.ifYes X32.here hx rfl (pc0 := 117) (pc' := 126) rfl (hb hby at_117) rfl (XT.i0_eq_t hc33) (by decide) (by decide) k) ?_
                show own_Goes p e below s (own_F0 Z x0 x1 x2 x3 x4 n0 h0) room_1.cells room_1.slots (T32.setTop (mkF m 126 #[.val (.int x0), .val (.int x1), .val (.int x2), .val (.int x3), .val (.int x4), .val (.int ((x0 &&& (2147483647 : Int32)) % (5 : Int32))), .val (.int (own_f1 x1)), .val (.int (own_f1 x2)), .val (.int (own_f1 x3)), .val (.int (own_f1 x4)), .val (.ref a5), .unset] []))
                refine own_Goes.step (fun t k => XS.iload X32.here hx rfl (hb hby at_126) rfl k) ?_
                show own_Goes p e below s (own_F0 Z x0 x1 x2 x3 x4 n0 h0) room_1.cells room_1.slots (T32.setTop (mkF m 128 #[.val (.int x0), .val (.int x1), .val (.int x2), .val (.int x3), .val (.int x4), .val (.int ((x0 &&& (2147483647 : Int32)) % (5 : Int32))), .val (.int (own_f1 x1)), .val (.int (own_f1 x2)), .val (.int (own_f1 x3)), .val (.int (own_f1 x4)), .val (.ref a5), .unset] [(.int ((x0 &&& (2147483647 : Int32)) % (5 : Int32)))]))
                refine own_Goes.step (fun t k => XT.iconstV X32.here hx rfl (2 : Int32) (hb hby at_128) (by decide) k) ?_
                show own_Goes p e below s (own_F0 Z x0 x1 x2 x3 x4 n0 h0) room_1.cells room_1.slots (T32.setTop (mkF m 129 #[.val (.int x0), .val (.int x1), .val (.int x2), .val (.int x3), .val (.int x4), .val (.int ((x0 &&& (2147483647 : Int32)) % (5 : Int32))), .val (.int (own_f1 x1)), .val (.int (own_f1 x2)), .val (.int (own_f1 x3)), .val (.int (own_f1 x4)), .val (.ref a5), .unset] [(.int (2 : Int32)), (.int ((x0 &&& (2147483647 : Int32)) % (5 : Int32)))]))
                refine own_Goes.step (fun t k => XS.icmpNo X32.here hx rfl (hb hby at_129) rfl (XT.ii_lt_f (own_geb (by decide) hc12)) k) ?_
                show own_Goes p e below s (own_F0 Z x0 x1 x2 x3 x4 n0 h0) room_1.cells room_1.slots (T32.setTop (mkF m 132 #[.val (.int x0), .val (.int x1), .val (.int x2), .val (.int x3), .val (.int x4), .val (.int ((x0 &&& (2147483647 : Int32)) % (5 : Int32))), .val (.int (own_f1 x1)), .val (.int (own_f1 x2)), .val (.int (own_f1 x3)), .val (.int (own_f1 x4)), .val (.ref a5), .unset] []))
                refine own_Goes.step (fun t k => XS.iload X32.here hx rfl (hb hby at_132) rfl k) ?_
                show own_Goes p e below s (own_F0 Z x0 x1 x2 x3 x4 n0 h0) room_1.cells room_1.slots (T32.setTop (mkF m 134 #[.val (.int x0), .val (.int x1), .val (.int x2), .val (.int x3), .val (.int x4), .val (.int ((x0 &&& (2147483647 : Int32)) % (5 : Int32))), .val (.int (own_f1 x1)), .val (.int (own_f1 x2)), .val (.int (own_f1 x3)), .val (.int (own_f1 x4)), .val (.ref a5), .unset] [(.int (own_f1 x2))]))
                obtain ⟨w34, T34, L34, q34, Y34, st34⟩ := own_stat X32 hx hZ e32 hown (hw _ (List.mem_of_getElem? (i := 10) rfl)) (hw _ (List.mem_of_getElem? (i := 11) rfl)) (hw _ (List.mem_of_getElem? (i := 3) rfl)) (hw _ (List.mem_of_getElem? (i := 12) rfl)) (by decide) (own_m3 l Z a0 hw [] (own_f1 x2) h25 ) (by decide) (W := 0) (by decide) (by decide) (by decide) (g := (mkF m 134 #[.val (.int x0), .val (.int x1), .val (.int x2), .val (.int x3), .val (.int x4), .val (.int ((x0 &&& (2147483647 : Int32)) % (5 : Int32))), .val (.int (own_f1 x1)), .val (.int (own_f1 x2)), .val (.int (own_f1 x3)), .val (.int (own_f1 x4)), .val (.ref a5), .unset] [(.int (own_f1 x2))])) rfl (by rw [hml]; rfl) (argsL := [(.int (own_f1 x2))]) (rest := []) (lenOf pd_3 rfl) rfl (by show 2 * 0 + _ ≤ _; exact Nat.le_of_eq rfl) (hb hby at_134)
                obtain ⟨e34, X34⟩ := own_clean q34 Y34 rfl rfl
                obtain ⟨rfl, -, -⟩ := q34
                refine own_Goes.step st34 ?_
                show own_Goes p e below s (own_F0 Z x0 x1 x2 x3 x4 n0 h0) room_1.cells room_1.slots (T34.setTop (mkF m 137 #[.val (.int x0), .val (.int x1), .val (.int x2), .val (.int x3), .val (.int x4), .val (.int ((x0 &&& (2147483647 : Int32)) % (5 : Int32))), .val (.int (own_f1 x1)), .val (.int (own_f1 x2)), .val (.int (own_f1 x3)), .val (.int (own_f1 x4)), .val (.ref a5), .unset] [(.int (own_f3 (own_f1 x2)))]))
                by_cases hc35 : (own_f3 (own_f1 x2)) = (0 : Int32)
                · refine own_Goes.step (fun t k => XS.ifYes X34.here hx rfl (pc0 := 137) (pc' := 146) rfl (hb hby at_137) rfl (XT.i0_eq_t hc35) (by decide) (by decide) k) ?_
                  show own_Goes p e below s (own_F0 Z x0 x1 x2 x3 x4 n0 h0) room_1.cells room_1.slots (T34.setTop (mkF m 146 #[.val (.int x0), .val (.int x1), .val (.int x2), .val (.int x3), .val (.int x4), .val (.int ((x0 &&& (2147483647 : Int32)) % (5 : Int32))), .val (.int (own_f1 x1)), .val (.int (own_f1 x2)), .val (.int (own_f1 x3)), .val (.int (own_f1 x4)), .val (.ref a5), .unset] []))
                  refine own_Goes.step (fun t k => XS.iload X34.here hx rfl (hb hby at_146) rfl k) ?_
                  show own_Goes p e below s (own_F0 Z x0 x1 x2 x3 x4 n0 h0) room_1.cells room_1.slots (T34.setTop (mkF m 148 #[.val (.int x0), .val (.int x1), .val (.int x2), .val (.int x3), .val (.int x4), .val (.int ((x0 &&& (2147483647 : Int32)) % (5 : Int32))), .val (.int (own_f1 x1)), .val (.int (own_f1 x2)), .val (.int (own_f1 x3)), .val (.int (own_f1 x4)), .val (.ref a5), .unset] [(.int ((x0 &&& (2147483647 : Int32)) % (5 : Int32)))]))
                  refine own_Goes.step (fun t k => XT.iconstV X34.here hx rfl (1 : Int32) (hb hby at_148) (by decide) k) ?_
                  show own_Goes p e below s (own_F0 Z x0 x1 x2 x3 x4 n0 h0) room_1.cells room_1.slots (T34.setTop (mkF m 149 #[.val (.int x0), .val (.int x1), .val (.int x2), .val (.int x3), .val (.int x4), .val (.int ((x0 &&& (2147483647 : Int32)) % (5 : Int32))), .val (.int (own_f1 x1)), .val (.int (own_f1 x2)), .val (.int (own_f1 x3)), .val (.int (own_f1 x4)), .val (.ref a5), .unset] [(.int (1 : Int32)), (.int ((x0 &&& (2147483647 : Int32)) % (5 : Int32)))]))
                  refine own_Goes.step (fun t k => XS.icmpNo X34.here hx rfl (hb hby at_149) rfl (XT.ii_lt_f (own_geb (by decide) hc6)) k) ?_
                  show own_Goes p e below s (own_F0 Z x0 x1 x2 x3 x4 n0 h0) room_1.cells room_1.slots (T34.setTop (mkF m 152 #[.val (.int x0), .val (.int x1), .val (.int x2), .val (.int x3), .val (.int x4), .val (.int ((x0 &&& (2147483647 : Int32)) % (5 : Int32))), .val (.int (own_f1 x1)), .val (.int (own_f1 x2)), .val (.int (own_f1 x3)), .val (.int (own_f1 x4)), .val (.ref a5), .unset] []))
                  refine own_Goes.step (fun t k => XS.iload X34.here hx rfl (hb hby at_152) rfl k) ?_
                  show own_Goes p e below s (own_F0 Z x0 x1 x2 x3 x4 n0 h0) room_1.cells room_1.slots (T34.setTop (mkF m 154 #[.val (.int x0), .val (.int x1), .val (.int x2), .val (.int x3), .val (.int x4), .val (.int ((x0 &&& (2147483647 : Int32)) % (5 : Int32))), .val (.int (own_f1 x1)), .val (.int (own_f1 x2)), .val (.int (own_f1 x3)), .val (.int (own_f1 x4)), .val (.ref a5), .unset] [(.int (own_f1 x1))]))
                  obtain ⟨w36, T36, L36, q36, Y36, st36⟩ := own_stat X34 hx hZ e34 hown (hw _ (List.mem_of_getElem? (i := 10) rfl)) (hw _ (List.mem_of_getElem? (i := 11) rfl)) (hw _ (List.mem_of_getElem? (i := 3) rfl)) (hw _ (List.mem_of_getElem? (i := 12) rfl)) (by decide) (own_m3 l Z a0 hw [] (own_f1 x1) h25 ) (by decide) (W := 0) (by decide) (by decide) (by decide) (g := (mkF m 154 #[.val (.int x0), .val (.int x1), .val (.int x2), .val (.int x3), .val (.int x4), .val (.int ((x0 &&& (2147483647 : Int32)) % (5 : Int32))), .val (.int (own_f1 x1)), .val (.int (own_f1 x2)), .val (.int (own_f1 x3)), .val (.int (own_f1 x4)), .val (.ref a5), .unset] [(.int (own_f1 x1))])) rfl (by rw [hml]; rfl) (argsL := [(.int (own_f1 x1))]) (rest := []) (lenOf pd_3 rfl) rfl (by show 2 * 0 + _ ≤ _; exact Nat.le_of_eq rfl) (hb hby at_154)
                  obtain ⟨e36, X36⟩ := own_clean q36 Y36 rfl rfl
                  obtain ⟨rfl, -, -⟩ := q36
                  refine own_Goes.step st36 ?_
                  show own_Goes p e below s (own_F0 Z x0 x1 x2 x3 x4 n0 h0) room_1.cells room_1.slots (T36.setTop (mkF m 157 #[.val (.int x0), .val (.int x1), .val (.int x2), .val (.int x3), .val (.int x4), .val (.int ((x0 &&& (2147483647 : Int32)) % (5 : Int32))), .val (.int (own_f1 x1)), .val (.int (own_f1 x2)), .val (.int (own_f1 x3)), .val (.int (own_f1 x4)), .val (.ref a5), .unset] [(.int (own_f3 (own_f1 x1)))]))
                  have J40 : own_Goes p e below s (own_F0 Z x0 x1 x2 x3 x4 n0 h0) room_1.cells room_1.slots (T36.setTop (mkF m 169 #[.val (.int x0), .val (.int x1), .val (.int x2), .val (.int x3), .val (.int x4), .val (.int ((x0 &&& (2147483647 : Int32)) % (5 : Int32))), .val (.int (own_f1 x1)), .val (.int (own_f1 x2)), .val (.int (own_f1 x3)), .val (.int (own_f1 x4)), .val (.ref a5), .val (.int (own_f0_5 x0 x1 x2 x3 x4))] [])) := by
                    refine own_Goes.step (fun t k => XS.aload X36.here hx rfl (hb hby at_169) rfl rfl k) ?_
                    show own_Goes p e below s (own_F0 Z x0 x1 x2 x3 x4 n0 h0) room_1.cells room_1.slots (T36.setTop (mkF m 171 #[.val (.int x0), .val (.int x1), .val (.int x2), .val (.int x3), .val (.int x4), .val (.int ((x0 &&& (2147483647 : Int32)) % (5 : Int32))), .val (.int (own_f1 x1)), .val (.int (own_f1 x2)), .val (.int (own_f1 x3)), .val (.int (own_f1 x4)), .val (.ref a5), .val (.int (own_f0_5 x0 x1 x2 x3 x4))] [(.ref a5)]))
                    obtain ⟨w38, T38, L38, q38, Y38, st38⟩ := own_stat X36 hx hZ e36 hown (hw _ (List.mem_of_getElem? (i := 6) rfl)) (hw _ (List.mem_of_getElem? (i := 7) rfl)) (hw _ (List.mem_of_getElem? (i := 8) rfl)) (hw _ (List.mem_of_getElem? (i := 9) rfl)) (by decide) (own_m2 l Z a0 hw [] a5 (own_n x0) (own_f0_4 x0 x1 x2 x3 x4) n0 h25 f26 (Nat.lt_of_le_of_lt (own_n4 x0) (by decide))) (by decide) (W := 0) (by decide) (by decide) (by decide) (g := (mkF m 171 #[.val (.int x0), .val (.int x1), .val (.int x2), .val (.int x3), .val (.int x4), .val (.int ((x0 &&& (2147483647 : Int32)) % (5 : Int32))), .val (.int (own_f1 x1)), .val (.int (own_f1 x2)), .val (.int (own_f1 x3)), .val (.int (own_f1 x4)), .val (.ref a5), .val (.int (own_f0_5 x0 x1 x2 x3 x4))] [(.ref a5)])) rfl (by rw [hml]; rfl) (argsL := [(.ref a5)]) (rest := []) (lenOf pd_2 rfl) rfl (by show 2 * 0 + _ ≤ _; exact Nat.le_of_eq rfl) (hb hby at_171)
                    obtain ⟨e38, X38⟩ := own_clean q38 Y38 rfl rfl
                    obtain ⟨rfl, -, -⟩ := q38
                    refine own_Goes.step st38 ?_
                    show own_Goes p e below s (own_F0 Z x0 x1 x2 x3 x4 n0 h0) room_1.cells room_1.slots (T38.setTop (mkF m 174 #[.val (.int x0), .val (.int x1), .val (.int x2), .val (.int x3), .val (.int x4), .val (.int ((x0 &&& (2147483647 : Int32)) % (5 : Int32))), .val (.int (own_f1 x1)), .val (.int (own_f1 x2)), .val (.int (own_f1 x3)), .val (.int (own_f1 x4)), .val (.ref a5), .val (.int (own_f0_5 x0 x1 x2 x3 x4))] [(.int (own_nsl (own_f0_4 x0 x1 x2 x3 x4) (own_n x0)))]))
                    refine own_Goes.step (fun t k => XS.iload X38.here hx rfl (hb hby at_174) rfl k) ?_
                    show own_Goes p e below s (own_F0 Z x0 x1 x2 x3 x4 n0 h0) room_1.cells room_1.slots (T38.setTop (mkF m 176 #[.val (.int x0), .val (.int x1), .val (.int x2), .val (.int x3), .val (.int x4), .val (.int ((x0 &&& (2147483647 : Int32)) % (5 : Int32))), .val (.int (own_f1 x1)), .val (.int (own_f1 x2)), .val (.int (own_f1 x3)), .val (.int (own_f1 x4)), .val (.ref a5), .val (.int (own_f0_5 x0 x1 x2 x3 x4))] [(.int (own_f0_5 x0 x1 x2 x3 x4)), (.int (own_nsl (own_f0_4 x0 x1 x2 x3 x4) (own_n x0)))]))
                    by_cases hc39 : (own_nsl (own_f0_4 x0 x1 x2 x3 x4) (own_n x0)) = (own_f0_5 x0 x1 x2 x3 x4)
                    · refine own_Goes.step (fun t k => XS.icmpNo X38.here hx rfl (hb hby at_176) rfl (XT.ii_ne_f hc39) k) ?_
                      show own_Goes p e below s (own_F0 Z x0 x1 x2 x3 x4 n0 h0) room_1.cells room_1.slots (T38.setTop (mkF m 179 #[.val (.int x0), .val (.int x1), .val (.int x2), .val (.int x3), .val (.int x4), .val (.int ((x0 &&& (2147483647 : Int32)) % (5 : Int32))), .val (.int (own_f1 x1)), .val (.int (own_f1 x2)), .val (.int (own_f1 x3)), .val (.int (own_f1 x4)), .val (.ref a5), .val (.int (own_f0_5 x0 x1 x2 x3 x4))] []))
                      refine own_Goes.step (fun t k => XT.iconstV X38.here hx rfl (1 : Int32) (hb hby at_179) (by decide) k) ?_
                      show own_Goes p e below s (own_F0 Z x0 x1 x2 x3 x4 n0 h0) room_1.cells room_1.slots (T38.setTop (mkF m 180 #[.val (.int x0), .val (.int x1), .val (.int x2), .val (.int x3), .val (.int x4), .val (.int ((x0 &&& (2147483647 : Int32)) % (5 : Int32))), .val (.int (own_f1 x1)), .val (.int (own_f1 x2)), .val (.int (own_f1 x3)), .val (.int (own_f1 x4)), .val (.ref a5), .val (.int (own_f0_5 x0 x1 x2 x3 x4))] [(.int (1 : Int32))]))
                      refine own_Goes.step (fun t k => XS.goto X38.here hx rfl (pc0 := 180) (pc' := 184) rfl (hb hby at_180) (by decide) (by decide) k) ?_
                      show own_Goes p e below s (own_F0 Z x0 x1 x2 x3 x4 n0 h0) room_1.cells room_1.slots (T38.setTop (mkF m 184 #[.val (.int x0), .val (.int x1), .val (.int x2), .val (.int x3), .val (.int x4), .val (.int ((x0 &&& (2147483647 : Int32)) % (5 : Int32))), .val (.int (own_f1 x1)), .val (.int (own_f1 x2)), .val (.int (own_f1 x3)), .val (.int (own_f1 x4)), .val (.ref a5), .val (.int (own_f0_5 x0 x1 x2 x3 x4))] [(.int (1 : Int32))]))
                      exact own_endN X38 hx Bd.notSynchronized (t := .boolean) Bd.returns (by simp) (hb hby at_184) ⟨(congrArg (fun z => some (Value.int z)) (show (1 : Int32) = own_f0 x0 x1 x2 x3 x4 from by simp only [own_f0, if_pos hc6, if_pos hc12, if_pos hc18, if_pos hc24, if_pos hc31, if_pos hc33, if_pos hc35, if_pos hc39])), N28⟩ (by decide) (by decide)
                    · refine own_Goes.step (fun t k => XS.icmpYes X38.here hx rfl (pc0 := 176) (pc' := 183) rfl (hb hby at_176) rfl (XT.ii_ne_t hc39) (by decide) (by decide) k) ?_
                      show own_Goes p e below s (own_F0 Z x0 x1 x2 x3 x4 n0 h0) room_1.cells room_1.slots (T38.setTop (mkF m 183 #[.val (.int x0), .val (.int x1), .val (.int x2), .val (.int x3), .val (.int x4), .val (.int ((x0 &&& (2147483647 : Int32)) % (5 : Int32))), .val (.int (own_f1 x1)), .val (.int (own_f1 x2)), .val (.int (own_f1 x3)), .val (.int (own_f1 x4)), .val (.ref a5), .val (.int (own_f0_5 x0 x1 x2 x3 x4))] []))
                      refine own_Goes.step (fun t k => XT.iconstV X38.here hx rfl (0 : Int32) (hb hby at_183) (by decide) k) ?_
                      show own_Goes p e below s (own_F0 Z x0 x1 x2 x3 x4 n0 h0) room_1.cells room_1.slots (T38.setTop (mkF m 184 #[.val (.int x0), .val (.int x1), .val (.int x2), .val (.int x3), .val (.int x4), .val (.int ((x0 &&& (2147483647 : Int32)) % (5 : Int32))), .val (.int (own_f1 x1)), .val (.int (own_f1 x2)), .val (.int (own_f1 x3)), .val (.int (own_f1 x4)), .val (.ref a5), .val (.int (own_f0_5 x0 x1 x2 x3 x4))] [(.int (0 : Int32))]))
                      exact own_endN X38 hx Bd.notSynchronized (t := .boolean) Bd.returns (by simp) (hb hby at_184) ⟨(congrArg (fun z => some (Value.int z)) (show (0 : Int32) = own_f0 x0 x1 x2 x3 x4 from by simp only [own_f0, if_pos hc6, if_pos hc12, if_pos hc18, if_pos hc24, if_pos hc31, if_pos hc33, if_pos hc35, if_neg hc39])), N28⟩ (by decide) (by decide)
                  by_cases hc37 : (own_f3 (own_f1 x1)) = (0 : Int32)
                  · refine own_Goes.step (fun t k => XS.ifYes X36.here hx rfl (pc0 := 157) (pc' := 166) rfl (hb hby at_157) rfl (XT.i0_eq_t hc37) (by decide) (by decide) k) ?_
                    show own_Goes p e below s (own_F0 Z x0 x1 x2 x3 x4 n0 h0) room_1.cells room_1.slots (T36.setTop (mkF m 166 #[.val (.int x0), .val (.int x1), .val (.int x2), .val (.int x3), .val (.int x4), .val (.int ((x0 &&& (2147483647 : Int32)) % (5 : Int32))), .val (.int (own_f1 x1)), .val (.int (own_f1 x2)), .val (.int (own_f1 x3)), .val (.int (own_f1 x4)), .val (.ref a5), .unset] []))
                    refine own_Goes.step (fun t k => XT.iconstV X36.here hx rfl (0 : Int32) (hb hby at_166) (by decide) k) ?_
                    show own_Goes p e below s (own_F0 Z x0 x1 x2 x3 x4 n0 h0) room_1.cells room_1.slots (T36.setTop (mkF m 167 #[.val (.int x0), .val (.int x1), .val (.int x2), .val (.int x3), .val (.int x4), .val (.int ((x0 &&& (2147483647 : Int32)) % (5 : Int32))), .val (.int (own_f1 x1)), .val (.int (own_f1 x2)), .val (.int (own_f1 x3)), .val (.int (own_f1 x4)), .val (.ref a5), .unset] [(.int (0 : Int32))]))
                    refine own_Goes.step (fun t k => XS.istore X36.here hx rfl (hb hby at_167) rfl (l' := #[.val (.int x0), .val (.int x1), .val (.int x2), .val (.int x3), .val (.int x4), .val (.int ((x0 &&& (2147483647 : Int32)) % (5 : Int32))), .val (.int (own_f1 x1)), .val (.int (own_f1 x2)), .val (.int (own_f1 x3)), .val (.int (own_f1 x4)), .val (.ref a5), .val (.int (0 : Int32))]) rfl k) ?_
                    show own_Goes p e below s (own_F0 Z x0 x1 x2 x3 x4 n0 h0) room_1.cells room_1.slots (T36.setTop (mkF m 169 #[.val (.int x0), .val (.int x1), .val (.int x2), .val (.int x3), .val (.int x4), .val (.int ((x0 &&& (2147483647 : Int32)) % (5 : Int32))), .val (.int (own_f1 x1)), .val (.int (own_f1 x2)), .val (.int (own_f1 x3)), .val (.int (own_f1 x4)), .val (.ref a5), .val (.int (0 : Int32))] []))
                    rw [show (own_f0_5 x0 x1 x2 x3 x4) = (0 : Int32) from by simp only [own_f0_5, if_pos hc37]] at J40
                    exact J40
                  · refine own_Goes.step (fun t k => XS.ifNo X36.here hx rfl (hb hby at_157) rfl (XT.i0_eq_f hc37) k) ?_
                    show own_Goes p e below s (own_F0 Z x0 x1 x2 x3 x4 n0 h0) room_1.cells room_1.slots (T36.setTop (mkF m 160 #[.val (.int x0), .val (.int x1), .val (.int x2), .val (.int x3), .val (.int x4), .val (.int ((x0 &&& (2147483647 : Int32)) % (5 : Int32))), .val (.int (own_f1 x1)), .val (.int (own_f1 x2)), .val (.int (own_f1 x3)), .val (.int (own_f1 x4)), .val (.ref a5), .unset] []))
                    refine own_Goes.step (fun t k => XT.iconstV X36.here hx rfl (1 : Int32) (hb hby at_160) (by decide) k) ?_
                    show own_Goes p e below s (own_F0 Z x0 x1 x2 x3 x4 n0 h0) room_1.cells room_1.slots (T36.setTop (mkF m 161 #[.val (.int x0), .val (.int x1), .val (.int x2), .val (.int x3), .val (.int x4), .val (.int ((x0 &&& (2147483647 : Int32)) % (5 : Int32))), .val (.int (own_f1 x1)), .val (.int (own_f1 x2)), .val (.int (own_f1 x3)), .val (.int (own_f1 x4)), .val (.ref a5), .unset] [(.int (1 : Int32))]))
                    refine own_Goes.step (fun t k => XS.istore X36.here hx rfl (hb hby at_161) rfl (l' := #[.val (.int x0), .val (.int x1), .val (.int x2), .val (.int x3), .val (.int x4), .val (.int ((x0 &&& (2147483647 : Int32)) % (5 : Int32))), .val (.int (own_f1 x1)), .val (.int (own_f1 x2)), .val (.int (own_f1 x3)), .val (.int (own_f1 x4)), .val (.ref a5), .val (.int (1 : Int32))]) rfl k) ?_
                    show own_Goes p e below s (own_F0 Z x0 x1 x2 x3 x4 n0 h0) room_1.cells room_1.slots (T36.setTop (mkF m 163 #[.val (.int x0), .val (.int x1), .val (.int x2), .val (.int x3), .val (.int x4), .val (.int ((x0 &&& (2147483647 : Int32)) % (5 : Int32))), .val (.int (own_f1 x1)), .val (.int (own_f1 x2)), .val (.int (own_f1 x3)), .val (.int (own_f1 x4)), .val (.ref a5), .val (.int (1 : Int32))] []))
                    refine own_Goes.step (fun t k => XS.goto X36.here hx rfl (pc0 := 163) (pc' := 169) rfl (hb hby at_163) (by decide) (by decide) k) ?_
                    show own_Goes p e below s (own_F0 Z x0 x1 x2 x3 x4 n0 h0) room_1.cells room_1.slots (T36.setTop (mkF m 169 #[.val (.int x0), .val (.int x1), .val (.int x2), .val (.int x3), .val (.int x4), .val (.int ((x0 &&& (2147483647 : Int32)) % (5 : Int32))), .val (.int (own_f1 x1)), .val (.int (own_f1 x2)), .val (.int (own_f1 x3)), .val (.int (own_f1 x4)), .val (.ref a5), .val (.int (1 : Int32))] []))
                    rw [show (own_f0_5 x0 x1 x2 x3 x4) = (1 : Int32) from by simp only [own_f0_5, if_neg hc37]] at J40
                    exact J40
                · refine own_Goes.step (fun t k => XS.ifNo X34.here hx rfl (hb hby at_137) rfl (XT.i0_eq_f hc35) k) ?_
                  show own_Goes p e below s (own_F0 Z x0 x1 x2 x3 x4 n0 h0) room_1.cells room_1.slots (T34.setTop (mkF m 140 #[.val (.int x0), .val (.int x1), .val (.int x2), .val (.int x3), .val (.int x4), .val (.int ((x0 &&& (2147483647 : Int32)) % (5 : Int32))), .val (.int (own_f1 x1)), .val (.int (own_f1 x2)), .val (.int (own_f1 x3)), .val (.int (own_f1 x4)), .val (.ref a5), .unset] []))
                  refine own_Goes.step (fun t k => XT.iconstV X34.here hx rfl (2 : Int32) (hb hby at_140) (by decide) k) ?_
                  show own_Goes p e below s (own_F0 Z x0 x1 x2 x3 x4 n0 h0) room_1.cells room_1.slots (T34.setTop (mkF m 141 #[.val (.int x0), .val (.int x1), .val (.int x2), .val (.int x3), .val (.int x4), .val (.int ((x0 &&& (2147483647 : Int32)) % (5 : Int32))), .val (.int (own_f1 x1)), .val (.int (own_f1 x2)), .val (.int (own_f1 x3)), .val (.int (own_f1 x4)), .val (.ref a5), .unset] [(.int (2 : Int32))]))
                  refine own_Goes.step (fun t k => XS.istore X34.here hx rfl (hb hby at_141) rfl (l' := #[.val (.int x0), .val (.int x1), .val (.int x2), .val (.int x3), .val (.int x4), .val (.int ((x0 &&& (2147483647 : Int32)) % (5 : Int32))), .val (.int (own_f1 x1)), .val (.int (own_f1 x2)), .val (.int (own_f1 x3)), .val (.int (own_f1 x4)), .val (.ref a5), .val (.int (2 : Int32))]) rfl k) ?_
                  show own_Goes p e below s (own_F0 Z x0 x1 x2 x3 x4 n0 h0) room_1.cells room_1.slots (T34.setTop (mkF m 143 #[.val (.int x0), .val (.int x1), .val (.int x2), .val (.int x3), .val (.int x4), .val (.int ((x0 &&& (2147483647 : Int32)) % (5 : Int32))), .val (.int (own_f1 x1)), .val (.int (own_f1 x2)), .val (.int (own_f1 x3)), .val (.int (own_f1 x4)), .val (.ref a5), .val (.int (2 : Int32))] []))
                  refine own_Goes.step (fun t k => XS.goto X34.here hx rfl (pc0 := 143) (pc' := 169) rfl (hb hby at_143) (by decide) (by decide) k) ?_
                  show own_Goes p e below s (own_F0 Z x0 x1 x2 x3 x4 n0 h0) room_1.cells room_1.slots (T34.setTop (mkF m 169 #[.val (.int x0), .val (.int x1), .val (.int x2), .val (.int x3), .val (.int x4), .val (.int ((x0 &&& (2147483647 : Int32)) % (5 : Int32))), .val (.int (own_f1 x1)), .val (.int (own_f1 x2)), .val (.int (own_f1 x3)), .val (.int (own_f1 x4)), .val (.ref a5), .val (.int (2 : Int32))] []))
                  refine own_Goes.step (fun t k => XS.aload X34.here hx rfl (hb hby at_169) rfl rfl k) ?_
                  show own_Goes p e below s (own_F0 Z x0 x1 x2 x3 x4 n0 h0) room_1.cells room_1.slots (T34.setTop (mkF m 171 #[.val (.int x0), .val (.int x1), .val (.int x2), .val (.int x3), .val (.int x4), .val (.int ((x0 &&& (2147483647 : Int32)) % (5 : Int32))), .val (.int (own_f1 x1)), .val (.int (own_f1 x2)), .val (.int (own_f1 x3)), .val (.int (own_f1 x4)), .val (.ref a5), .val (.int (2 : Int32))] [(.ref a5)]))
                  obtain ⟨w41, T41, L41, q41, Y41, st41⟩ := own_stat X34 hx hZ e34 hown (hw _ (List.mem_of_getElem? (i := 6) rfl)) (hw _ (List.mem_of_getElem? (i := 7) rfl)) (hw _ (List.mem_of_getElem? (i := 8) rfl)) (hw _ (List.mem_of_getElem? (i := 9) rfl)) (by decide) (own_m2 l Z a0 hw [] a5 (own_n x0) (own_f0_4 x0 x1 x2 x3 x4) n0 h25 f26 (Nat.lt_of_le_of_lt (own_n4 x0) (by decide))) (by decide) (W := 0) (by decide) (by decide) (by decide) (g := (mkF m 171 #[.val (.int x0), .val (.int x1), .val (.int x2), .val (.int x3), .val (.int x4), .val (.int ((x0 &&& (2147483647 : Int32)) % (5 : Int32))), .val (.int (own_f1 x1)), .val (.int (own_f1 x2)), .val (.int (own_f1 x3)), .val (.int (own_f1 x4)), .val (.ref a5), .val (.int (2 : Int32))] [(.ref a5)])) rfl (by rw [hml]; rfl) (argsL := [(.ref a5)]) (rest := []) (lenOf pd_2 rfl) rfl (by show 2 * 0 + _ ≤ _; exact Nat.le_of_eq rfl) (hb hby at_171)
                  obtain ⟨e41, X41⟩ := own_clean q41 Y41 rfl rfl
                  obtain ⟨rfl, -, -⟩ := q41
                  refine own_Goes.step st41 ?_
                  show own_Goes p e below s (own_F0 Z x0 x1 x2 x3 x4 n0 h0) room_1.cells room_1.slots (T41.setTop (mkF m 174 #[.val (.int x0), .val (.int x1), .val (.int x2), .val (.int x3), .val (.int x4), .val (.int ((x0 &&& (2147483647 : Int32)) % (5 : Int32))), .val (.int (own_f1 x1)), .val (.int (own_f1 x2)), .val (.int (own_f1 x3)), .val (.int (own_f1 x4)), .val (.ref a5), .val (.int (2 : Int32))] [(.int (own_nsl (own_f0_4 x0 x1 x2 x3 x4) (own_n x0)))]))
                  refine own_Goes.step (fun t k => XS.iload X41.here hx rfl (hb hby at_174) rfl k) ?_
                  show own_Goes p e below s (own_F0 Z x0 x1 x2 x3 x4 n0 h0) room_1.cells room_1.slots (T41.setTop (mkF m 176 #[.val (.int x0), .val (.int x1), .val (.int x2), .val (.int x3), .val (.int x4), .val (.int ((x0 &&& (2147483647 : Int32)) % (5 : Int32))), .val (.int (own_f1 x1)), .val (.int (own_f1 x2)), .val (.int (own_f1 x3)), .val (.int (own_f1 x4)), .val (.ref a5), .val (.int (2 : Int32))] [(.int (2 : Int32)), (.int (own_nsl (own_f0_4 x0 x1 x2 x3 x4) (own_n x0)))]))
                  by_cases hc42 : (own_nsl (own_f0_4 x0 x1 x2 x3 x4) (own_n x0)) = (2 : Int32)
                  · refine own_Goes.step (fun t k => XS.icmpNo X41.here hx rfl (hb hby at_176) rfl (XT.ii_ne_f hc42) k) ?_
                    show own_Goes p e below s (own_F0 Z x0 x1 x2 x3 x4 n0 h0) room_1.cells room_1.slots (T41.setTop (mkF m 179 #[.val (.int x0), .val (.int x1), .val (.int x2), .val (.int x3), .val (.int x4), .val (.int ((x0 &&& (2147483647 : Int32)) % (5 : Int32))), .val (.int (own_f1 x1)), .val (.int (own_f1 x2)), .val (.int (own_f1 x3)), .val (.int (own_f1 x4)), .val (.ref a5), .val (.int (2 : Int32))] []))
                    refine own_Goes.step (fun t k => XT.iconstV X41.here hx rfl (1 : Int32) (hb hby at_179) (by decide) k) ?_
                    show own_Goes p e below s (own_F0 Z x0 x1 x2 x3 x4 n0 h0) room_1.cells room_1.slots (T41.setTop (mkF m 180 #[.val (.int x0), .val (.int x1), .val (.int x2), .val (.int x3), .val (.int x4), .val (.int ((x0 &&& (2147483647 : Int32)) % (5 : Int32))), .val (.int (own_f1 x1)), .val (.int (own_f1 x2)), .val (.int (own_f1 x3)), .val (.int (own_f1 x4)), .val (.ref a5), .val (.int (2 : Int32))] [(.int (1 : Int32))]))
                    refine own_Goes.step (fun t k => XS.goto X41.here hx rfl (pc0 := 180) (pc' := 184) rfl (hb hby at_180) (by decide) (by decide) k) ?_
                    show own_Goes p e below s (own_F0 Z x0 x1 x2 x3 x4 n0 h0) room_1.cells room_1.slots (T41.setTop (mkF m 184 #[.val (.int x0), .val (.int x1), .val (.int x2), .val (.int x3), .val (.int x4), .val (.int ((x0 &&& (2147483647 : Int32)) % (5 : Int32))), .val (.int (own_f1 x1)), .val (.int (own_f1 x2)), .val (.int (own_f1 x3)), .val (.int (own_f1 x4)), .val (.ref a5), .val (.int (2 : Int32))] [(.int (1 : Int32))]))
                    exact own_endN X41 hx Bd.notSynchronized (t := .boolean) Bd.returns (by simp) (hb hby at_184) ⟨(congrArg (fun z => some (Value.int z)) (show (1 : Int32) = own_f0 x0 x1 x2 x3 x4 from by simp only [own_f0, if_pos hc6, if_pos hc12, if_pos hc18, if_pos hc24, if_pos hc31, if_pos hc33, if_neg hc35, if_pos hc42])), N28⟩ (by decide) (by decide)
                  · refine own_Goes.step (fun t k => XS.icmpYes X41.here hx rfl (pc0 := 176) (pc' := 183) rfl (hb hby at_176) rfl (XT.ii_ne_t hc42) (by decide) (by decide) k) ?_
                    show own_Goes p e below s (own_F0 Z x0 x1 x2 x3 x4 n0 h0) room_1.cells room_1.slots (T41.setTop (mkF m 183 #[.val (.int x0), .val (.int x1), .val (.int x2), .val (.int x3), .val (.int x4), .val (.int ((x0 &&& (2147483647 : Int32)) % (5 : Int32))), .val (.int (own_f1 x1)), .val (.int (own_f1 x2)), .val (.int (own_f1 x3)), .val (.int (own_f1 x4)), .val (.ref a5), .val (.int (2 : Int32))] []))
                    refine own_Goes.step (fun t k => XT.iconstV X41.here hx rfl (0 : Int32) (hb hby at_183) (by decide) k) ?_
                    show own_Goes p e below s (own_F0 Z x0 x1 x2 x3 x4 n0 h0) room_1.cells room_1.slots (T41.setTop (mkF m 184 #[.val (.int x0), .val (.int x1), .val (.int x2), .val (.int x3), .val (.int x4), .val (.int ((x0 &&& (2147483647 : Int32)) % (5 : Int32))), .val (.int (own_f1 x1)), .val (.int (own_f1 x2)), .val (.int (own_f1 x3)), .val (.int (own_f1 x4)), .val (.ref a5), .val (.int (2 : Int32))] [(.int (0 : Int32))]))
                    exact own_endN X41 hx Bd.notSynchronized (t := .boolean) Bd.returns (by simp) (hb hby at_184) ⟨(congrArg (fun z => some (Value.int z)) (show (0 : Int32) = own_f0 x0 x1 x2 x3 x4 from by simp only [own_f0, if_pos hc6, if_pos hc12, if_pos hc18, if_pos hc24, if_pos hc31, if_pos hc33, if_neg hc35, if_neg hc42])), N28⟩ (by decide) (by decide)
              · refine own_Goes.step (fun t k => XS.ifNo X32.here hx rfl (hb hby at_117) rfl (XT.i0_eq_f hc33) k) ?_
                show own_Goes p e below s (own_F0 Z x0 x1 x2 x3 x4 n0 h0) room_1.cells room_1.slots (T32.setTop (mkF m 120 #[.val (.int x0), .val (.int x1), .val (.int x2), .val (.int x3), .val (.int x4), .val (.int ((x0 &&& (2147483647 : Int32)) % (5 : Int32))), .val (.int (own_f1 x1)), .val (.int (own_f1 x2)), .val (.int (own_f1 x3)), .val (.int (own_f1 x4)), .val (.ref a5), .unset] []))
                refine own_Goes.step (fun t k => XT.iconstV X32.here hx rfl (3 : Int32) (hb hby at_120) (by decide) k) ?_
                show own_Goes p e below s (own_F0 Z x0 x1 x2 x3 x4 n0 h0) room_1.cells room_1.slots (T32.setTop (mkF m 121 #[.val (.int x0), .val (.int x1), .val (.int x2), .val (.int x3), .val (.int x4), .val (.int ((x0 &&& (2147483647 : Int32)) % (5 : Int32))), .val (.int (own_f1 x1)), .val (.int (own_f1 x2)), .val (.int (own_f1 x3)), .val (.int (own_f1 x4)), .val (.ref a5), .unset] [(.int (3 : Int32))]))
                refine own_Goes.step (fun t k => XS.istore X32.here hx rfl (hb hby at_121) rfl (l' := #[.val (.int x0), .val (.int x1), .val (.int x2), .val (.int x3), .val (.int x4), .val (.int ((x0 &&& (2147483647 : Int32)) % (5 : Int32))), .val (.int (own_f1 x1)), .val (.int (own_f1 x2)), .val (.int (own_f1 x3)), .val (.int (own_f1 x4)), .val (.ref a5), .val (.int (3 : Int32))]) rfl k) ?_
                show own_Goes p e below s (own_F0 Z x0 x1 x2 x3 x4 n0 h0) room_1.cells room_1.slots (T32.setTop (mkF m 123 #[.val (.int x0), .val (.int x1), .val (.int x2), .val (.int x3), .val (.int x4), .val (.int ((x0 &&& (2147483647 : Int32)) % (5 : Int32))), .val (.int (own_f1 x1)), .val (.int (own_f1 x2)), .val (.int (own_f1 x3)), .val (.int (own_f1 x4)), .val (.ref a5), .val (.int (3 : Int32))] []))
                refine own_Goes.step (fun t k => XS.goto X32.here hx rfl (pc0 := 123) (pc' := 169) rfl (hb hby at_123) (by decide) (by decide) k) ?_
                show own_Goes p e below s (own_F0 Z x0 x1 x2 x3 x4 n0 h0) room_1.cells room_1.slots (T32.setTop (mkF m 169 #[.val (.int x0), .val (.int x1), .val (.int x2), .val (.int x3), .val (.int x4), .val (.int ((x0 &&& (2147483647 : Int32)) % (5 : Int32))), .val (.int (own_f1 x1)), .val (.int (own_f1 x2)), .val (.int (own_f1 x3)), .val (.int (own_f1 x4)), .val (.ref a5), .val (.int (3 : Int32))] []))
                refine own_Goes.step (fun t k => XS.aload X32.here hx rfl (hb hby at_169) rfl rfl k) ?_
                show own_Goes p e below s (own_F0 Z x0 x1 x2 x3 x4 n0 h0) room_1.cells room_1.slots (T32.setTop (mkF m 171 #[.val (.int x0), .val (.int x1), .val (.int x2), .val (.int x3), .val (.int x4), .val (.int ((x0 &&& (2147483647 : Int32)) % (5 : Int32))), .val (.int (own_f1 x1)), .val (.int (own_f1 x2)), .val (.int (own_f1 x3)), .val (.int (own_f1 x4)), .val (.ref a5), .val (.int (3 : Int32))] [(.ref a5)]))
                obtain ⟨w43, T43, L43, q43, Y43, st43⟩ := own_stat X32 hx hZ e32 hown (hw _ (List.mem_of_getElem? (i := 6) rfl)) (hw _ (List.mem_of_getElem? (i := 7) rfl)) (hw _ (List.mem_of_getElem? (i := 8) rfl)) (hw _ (List.mem_of_getElem? (i := 9) rfl)) (by decide) (own_m2 l Z a0 hw [] a5 (own_n x0) (own_f0_4 x0 x1 x2 x3 x4) n0 h25 f26 (Nat.lt_of_le_of_lt (own_n4 x0) (by decide))) (by decide) (W := 0) (by decide) (by decide) (by decide) (g := (mkF m 171 #[.val (.int x0), .val (.int x1), .val (.int x2), .val (.int x3), .val (.int x4), .val (.int ((x0 &&& (2147483647 : Int32)) % (5 : Int32))), .val (.int (own_f1 x1)), .val (.int (own_f1 x2)), .val (.int (own_f1 x3)), .val (.int (own_f1 x4)), .val (.ref a5), .val (.int (3 : Int32))] [(.ref a5)])) rfl (by rw [hml]; rfl) (argsL := [(.ref a5)]) (rest := []) (lenOf pd_2 rfl) rfl (by show 2 * 0 + _ ≤ _; exact Nat.le_of_eq rfl) (hb hby at_171)
                obtain ⟨e43, X43⟩ := own_clean q43 Y43 rfl rfl
                obtain ⟨rfl, -, -⟩ := q43
                refine own_Goes.step st43 ?_
                show own_Goes p e below s (own_F0 Z x0 x1 x2 x3 x4 n0 h0) room_1.cells room_1.slots (T43.setTop (mkF m 174 #[.val (.int x0), .val (.int x1), .val (.int x2), .val (.int x3), .val (.int x4), .val (.int ((x0 &&& (2147483647 : Int32)) % (5 : Int32))), .val (.int (own_f1 x1)), .val (.int (own_f1 x2)), .val (.int (own_f1 x3)), .val (.int (own_f1 x4)), .val (.ref a5), .val (.int (3 : Int32))] [(.int (own_nsl (own_f0_4 x0 x1 x2 x3 x4) (own_n x0)))]))
                refine own_Goes.step (fun t k => XS.iload X43.here hx rfl (hb hby at_174) rfl k) ?_
                show own_Goes p e below s (own_F0 Z x0 x1 x2 x3 x4 n0 h0) room_1.cells room_1.slots (T43.setTop (mkF m 176 #[.val (.int x0), .val (.int x1), .val (.int x2), .val (.int x3), .val (.int x4), .val (.int ((x0 &&& (2147483647 : Int32)) % (5 : Int32))), .val (.int (own_f1 x1)), .val (.int (own_f1 x2)), .val (.int (own_f1 x3)), .val (.int (own_f1 x4)), .val (.ref a5), .val (.int (3 : Int32))] [(.int (3 : Int32)), (.int (own_nsl (own_f0_4 x0 x1 x2 x3 x4) (own_n x0)))]))
                by_cases hc44 : (own_nsl (own_f0_4 x0 x1 x2 x3 x4) (own_n x0)) = (3 : Int32)
                · refine own_Goes.step (fun t k => XS.icmpNo X43.here hx rfl (hb hby at_176) rfl (XT.ii_ne_f hc44) k) ?_
                  show own_Goes p e below s (own_F0 Z x0 x1 x2 x3 x4 n0 h0) room_1.cells room_1.slots (T43.setTop (mkF m 179 #[.val (.int x0), .val (.int x1), .val (.int x2), .val (.int x3), .val (.int x4), .val (.int ((x0 &&& (2147483647 : Int32)) % (5 : Int32))), .val (.int (own_f1 x1)), .val (.int (own_f1 x2)), .val (.int (own_f1 x3)), .val (.int (own_f1 x4)), .val (.ref a5), .val (.int (3 : Int32))] []))
                  refine own_Goes.step (fun t k => XT.iconstV X43.here hx rfl (1 : Int32) (hb hby at_179) (by decide) k) ?_
                  show own_Goes p e below s (own_F0 Z x0 x1 x2 x3 x4 n0 h0) room_1.cells room_1.slots (T43.setTop (mkF m 180 #[.val (.int x0), .val (.int x1), .val (.int x2), .val (.int x3), .val (.int x4), .val (.int ((x0 &&& (2147483647 : Int32)) % (5 : Int32))), .val (.int (own_f1 x1)), .val (.int (own_f1 x2)), .val (.int (own_f1 x3)), .val (.int (own_f1 x4)), .val (.ref a5), .val (.int (3 : Int32))] [(.int (1 : Int32))]))
                  refine own_Goes.step (fun t k => XS.goto X43.here hx rfl (pc0 := 180) (pc' := 184) rfl (hb hby at_180) (by decide) (by decide) k) ?_
                  show own_Goes p e below s (own_F0 Z x0 x1 x2 x3 x4 n0 h0) room_1.cells room_1.slots (T43.setTop (mkF m 184 #[.val (.int x0), .val (.int x1), .val (.int x2), .val (.int x3), .val (.int x4), .val (.int ((x0 &&& (2147483647 : Int32)) % (5 : Int32))), .val (.int (own_f1 x1)), .val (.int (own_f1 x2)), .val (.int (own_f1 x3)), .val (.int (own_f1 x4)), .val (.ref a5), .val (.int (3 : Int32))] [(.int (1 : Int32))]))
                  exact own_endN X43 hx Bd.notSynchronized (t := .boolean) Bd.returns (by simp) (hb hby at_184) ⟨(congrArg (fun z => some (Value.int z)) (show (1 : Int32) = own_f0 x0 x1 x2 x3 x4 from by simp only [own_f0, if_pos hc6, if_pos hc12, if_pos hc18, if_pos hc24, if_pos hc31, if_neg hc33, if_pos hc44])), N28⟩ (by decide) (by decide)
                · refine own_Goes.step (fun t k => XS.icmpYes X43.here hx rfl (pc0 := 176) (pc' := 183) rfl (hb hby at_176) rfl (XT.ii_ne_t hc44) (by decide) (by decide) k) ?_
                  show own_Goes p e below s (own_F0 Z x0 x1 x2 x3 x4 n0 h0) room_1.cells room_1.slots (T43.setTop (mkF m 183 #[.val (.int x0), .val (.int x1), .val (.int x2), .val (.int x3), .val (.int x4), .val (.int ((x0 &&& (2147483647 : Int32)) % (5 : Int32))), .val (.int (own_f1 x1)), .val (.int (own_f1 x2)), .val (.int (own_f1 x3)), .val (.int (own_f1 x4)), .val (.ref a5), .val (.int (3 : Int32))] []))
                  refine own_Goes.step (fun t k => XT.iconstV X43.here hx rfl (0 : Int32) (hb hby at_183) (by decide) k) ?_
                  show own_Goes p e below s (own_F0 Z x0 x1 x2 x3 x4 n0 h0) room_1.cells room_1.slots (T43.setTop (mkF m 184 #[.val (.int x0), .val (.int x1), .val (.int x2), .val (.int x3), .val (.int x4), .val (.int ((x0 &&& (2147483647 : Int32)) % (5 : Int32))), .val (.int (own_f1 x1)), .val (.int (own_f1 x2)), .val (.int (own_f1 x3)), .val (.int (own_f1 x4)), .val (.ref a5), .val (.int (3 : Int32))] [(.int (0 : Int32))]))
                  exact own_endN X43 hx Bd.notSynchronized (t := .boolean) Bd.returns (by simp) (hb hby at_184) ⟨(congrArg (fun z => some (Value.int z)) (show (0 : Int32) = own_f0 x0 x1 x2 x3 x4 from by simp only [own_f0, if_pos hc6, if_pos hc12, if_pos hc18, if_pos hc24, if_pos hc31, if_neg hc33, if_neg hc44])), N28⟩ (by decide) (by decide)
            · refine own_Goes.step (fun t k => XS.ifNo X30.here hx rfl (hb hby at_97) rfl (XT.i0_eq_f hc31) k) ?_
              show own_Goes p e below s (own_F0 Z x0 x1 x2 x3 x4 n0 h0) room_1.cells room_1.slots (T30.setTop (mkF m 100 #[.val (.int x0), .val (.int x1), .val (.int x2), .val (.int x3), .val (.int x4), .val (.int ((x0 &&& (2147483647 : Int32)) % (5 : Int32))), .val (.int (own_f1 x1)), .val (.int (own_f1 x2)), .val (.int (own_f1 x3)), .val (.int (own_f1 x4)), .val (.ref a5), .unset] []))
              refine own_Goes.step (fun t k => XT.iconstV X30.here hx rfl (4 : Int32) (hb hby at_100) (by decide) k) ?_
              show own_Goes p e below s (own_F0 Z x0 x1 x2 x3 x4 n0 h0) room_1.cells room_1.slots (T30.setTop (mkF m 101 #[.val (.int x0), .val (.int x1), .val (.int x2), .val (.int x3), .val (.int x4), .val (.int ((x0 &&& (2147483647 : Int32)) % (5 : Int32))), .val (.int (own_f1 x1)), .val (.int (own_f1 x2)), .val (.int (own_f1 x3)), .val (.int (own_f1 x4)), .val (.ref a5), .unset] [(.int (4 : Int32))]))
              refine own_Goes.step (fun t k => XS.istore X30.here hx rfl (hb hby at_101) rfl (l' := #[.val (.int x0), .val (.int x1), .val (.int x2), .val (.int x3), .val (.int x4), .val (.int ((x0 &&& (2147483647 : Int32)) % (5 : Int32))), .val (.int (own_f1 x1)), .val (.int (own_f1 x2)), .val (.int (own_f1 x3)), .val (.int (own_f1 x4)), .val (.ref a5), .val (.int (4 : Int32))]) rfl k) ?_
              show own_Goes p e below s (own_F0 Z x0 x1 x2 x3 x4 n0 h0) room_1.cells room_1.slots (T30.setTop (mkF m 103 #[.val (.int x0), .val (.int x1), .val (.int x2), .val (.int x3), .val (.int x4), .val (.int ((x0 &&& (2147483647 : Int32)) % (5 : Int32))), .val (.int (own_f1 x1)), .val (.int (own_f1 x2)), .val (.int (own_f1 x3)), .val (.int (own_f1 x4)), .val (.ref a5), .val (.int (4 : Int32))] []))
              refine own_Goes.step (fun t k => XS.goto X30.here hx rfl (pc0 := 103) (pc' := 169) rfl (hb hby at_103) (by decide) (by decide) k) ?_
              show own_Goes p e below s (own_F0 Z x0 x1 x2 x3 x4 n0 h0) room_1.cells room_1.slots (T30.setTop (mkF m 169 #[.val (.int x0), .val (.int x1), .val (.int x2), .val (.int x3), .val (.int x4), .val (.int ((x0 &&& (2147483647 : Int32)) % (5 : Int32))), .val (.int (own_f1 x1)), .val (.int (own_f1 x2)), .val (.int (own_f1 x3)), .val (.int (own_f1 x4)), .val (.ref a5), .val (.int (4 : Int32))] []))
              refine own_Goes.step (fun t k => XS.aload X30.here hx rfl (hb hby at_169) rfl rfl k) ?_
              show own_Goes p e below s (own_F0 Z x0 x1 x2 x3 x4 n0 h0) room_1.cells room_1.slots (T30.setTop (mkF m 171 #[.val (.int x0), .val (.int x1), .val (.int x2), .val (.int x3), .val (.int x4), .val (.int ((x0 &&& (2147483647 : Int32)) % (5 : Int32))), .val (.int (own_f1 x1)), .val (.int (own_f1 x2)), .val (.int (own_f1 x3)), .val (.int (own_f1 x4)), .val (.ref a5), .val (.int (4 : Int32))] [(.ref a5)]))
              obtain ⟨w45, T45, L45, q45, Y45, st45⟩ := own_stat X30 hx hZ e30 hown (hw _ (List.mem_of_getElem? (i := 6) rfl)) (hw _ (List.mem_of_getElem? (i := 7) rfl)) (hw _ (List.mem_of_getElem? (i := 8) rfl)) (hw _ (List.mem_of_getElem? (i := 9) rfl)) (by decide) (own_m2 l Z a0 hw [] a5 (own_n x0) (own_f0_4 x0 x1 x2 x3 x4) n0 h25 f26 (Nat.lt_of_le_of_lt (own_n4 x0) (by decide))) (by decide) (W := 0) (by decide) (by decide) (by decide) (g := (mkF m 171 #[.val (.int x0), .val (.int x1), .val (.int x2), .val (.int x3), .val (.int x4), .val (.int ((x0 &&& (2147483647 : Int32)) % (5 : Int32))), .val (.int (own_f1 x1)), .val (.int (own_f1 x2)), .val (.int (own_f1 x3)), .val (.int (own_f1 x4)), .val (.ref a5), .val (.int (4 : Int32))] [(.ref a5)])) rfl (by rw [hml]; rfl) (argsL := [(.ref a5)]) (rest := []) (lenOf pd_2 rfl) rfl (by show 2 * 0 + _ ≤ _; exact Nat.le_of_eq rfl) (hb hby at_171)
              obtain ⟨e45, X45⟩ := own_clean q45 Y45 rfl rfl
              obtain ⟨rfl, -, -⟩ := q45
              refine own_Goes.step st45 ?_
              show own_Goes p e below s (own_F0 Z x0 x1 x2 x3 x4 n0 h0) room_1.cells room_1.slots (T45.setTop (mkF m 174 #[.val (.int x0), .val (.int x1), .val (.int x2), .val (.int x3), .val (.int x4), .val (.int ((x0 &&& (2147483647 : Int32)) % (5 : Int32))), .val (.int (own_f1 x1)), .val (.int (own_f1 x2)), .val (.int (own_f1 x3)), .val (.int (own_f1 x4)), .val (.ref a5), .val (.int (4 : Int32))] [(.int (own_nsl (own_f0_4 x0 x1 x2 x3 x4) (own_n x0)))]))
              refine own_Goes.step (fun t k => XS.iload X45.here hx rfl (hb hby at_174) rfl k) ?_
              show own_Goes p e below s (own_F0 Z x0 x1 x2 x3 x4 n0 h0) room_1.cells room_1.slots (T45.setTop (mkF m 176 #[.val (.int x0), .val (.int x1), .val (.int x2), .val (.int x3), .val (.int x4), .val (.int ((x0 &&& (2147483647 : Int32)) % (5 : Int32))), .val (.int (own_f1 x1)), .val (.int (own_f1 x2)), .val (.int (own_f1 x3)), .val (.int (own_f1 x4)), .val (.ref a5), .val (.int (4 : Int32))] [(.int (4 : Int32)), (.int (own_nsl (own_f0_4 x0 x1 x2 x3 x4) (own_n x0)))]))
              by_cases hc46 : (own_nsl (own_f0_4 x0 x1 x2 x3 x4) (own_n x0)) = (4 : Int32)
              · refine own_Goes.step (fun t k => XS.icmpNo X45.here hx rfl (hb hby at_176) rfl (XT.ii_ne_f hc46) k) ?_
                show own_Goes p e below s (own_F0 Z x0 x1 x2 x3 x4 n0 h0) room_1.cells room_1.slots (T45.setTop (mkF m 179 #[.val (.int x0), .val (.int x1), .val (.int x2), .val (.int x3), .val (.int x4), .val (.int ((x0 &&& (2147483647 : Int32)) % (5 : Int32))), .val (.int (own_f1 x1)), .val (.int (own_f1 x2)), .val (.int (own_f1 x3)), .val (.int (own_f1 x4)), .val (.ref a5), .val (.int (4 : Int32))] []))
                refine own_Goes.step (fun t k => XT.iconstV X45.here hx rfl (1 : Int32) (hb hby at_179) (by decide) k) ?_
                show own_Goes p e below s (own_F0 Z x0 x1 x2 x3 x4 n0 h0) room_1.cells room_1.slots (T45.setTop (mkF m 180 #[.val (.int x0), .val (.int x1), .val (.int x2), .val (.int x3), .val (.int x4), .val (.int ((x0 &&& (2147483647 : Int32)) % (5 : Int32))), .val (.int (own_f1 x1)), .val (.int (own_f1 x2)), .val (.int (own_f1 x3)), .val (.int (own_f1 x4)), .val (.ref a5), .val (.int (4 : Int32))] [(.int (1 : Int32))]))
                refine own_Goes.step (fun t k => XS.goto X45.here hx rfl (pc0 := 180) (pc' := 184) rfl (hb hby at_180) (by decide) (by decide) k) ?_
                show own_Goes p e below s (own_F0 Z x0 x1 x2 x3 x4 n0 h0) room_1.cells room_1.slots (T45.setTop (mkF m 184 #[.val (.int x0), .val (.int x1), .val (.int x2), .val (.int x3), .val (.int x4), .val (.int ((x0 &&& (2147483647 : Int32)) % (5 : Int32))), .val (.int (own_f1 x1)), .val (.int (own_f1 x2)), .val (.int (own_f1 x3)), .val (.int (own_f1 x4)), .val (.ref a5), .val (.int (4 : Int32))] [(.int (1 : Int32))]))
                exact own_endN X45 hx Bd.notSynchronized (t := .boolean) Bd.returns (by simp) (hb hby at_184) ⟨(congrArg (fun z => some (Value.int z)) (show (1 : Int32) = own_f0 x0 x1 x2 x3 x4 from by simp only [own_f0, if_pos hc6, if_pos hc12, if_pos hc18, if_pos hc24, if_neg hc31, if_pos hc46])), N28⟩ (by decide) (by decide)
              · refine own_Goes.step (fun t k => XS.icmpYes X45.here hx rfl (pc0 := 176) (pc' := 183) rfl (hb hby at_176) rfl (XT.ii_ne_t hc46) (by decide) (by decide) k) ?_
                show own_Goes p e below s (own_F0 Z x0 x1 x2 x3 x4 n0 h0) room_1.cells room_1.slots (T45.setTop (mkF m 183 #[.val (.int x0), .val (.int x1), .val (.int x2), .val (.int x3), .val (.int x4), .val (.int ((x0 &&& (2147483647 : Int32)) % (5 : Int32))), .val (.int (own_f1 x1)), .val (.int (own_f1 x2)), .val (.int (own_f1 x3)), .val (.int (own_f1 x4)), .val (.ref a5), .val (.int (4 : Int32))] []))
                refine own_Goes.step (fun t k => XT.iconstV X45.here hx rfl (0 : Int32) (hb hby at_183) (by decide) k) ?_
                show own_Goes p e below s (own_F0 Z x0 x1 x2 x3 x4 n0 h0) room_1.cells room_1.slots (T45.setTop (mkF m 184 #[.val (.int x0), .val (.int x1), .val (.int x2), .val (.int x3), .val (.int x4), .val (.int ((x0 &&& (2147483647 : Int32)) % (5 : Int32))), .val (.int (own_f1 x1)), .val (.int (own_f1 x2)), .val (.int (own_f1 x3)), .val (.int (own_f1 x4)), .val (.ref a5), .val (.int (4 : Int32))] [(.int (0 : Int32))]))
                exact own_endN X45 hx Bd.notSynchronized (t := .boolean) Bd.returns (by simp) (hb hby at_184) ⟨(congrArg (fun z => some (Value.int z)) (show (0 : Int32) = own_f0 x0 x1 x2 x3 x4 from by simp only [own_f0, if_pos hc6, if_pos hc12, if_pos hc18, if_pos hc24, if_neg hc31, if_neg hc46])), N28⟩ (by decide) (by decide)
          · refine own_Goes.step (fun t k => XS.icmpYes X19.here hx rfl (pc0 := 77) (pc' := 86) rfl (hb hby at_77) rfl (XT.ii_le_t hc24) (by decide) (by decide) k) ?_
            show own_Goes p e below s (own_F0 Z x0 x1 x2 x3 x4 n0 h0) room_1.cells room_1.slots (T19.setTop (mkF m 86 #[.val (.int x0), .val (.int x1), .val (.int x2), .val (.int x3), .val (.int x4), .val (.int ((x0 &&& (2147483647 : Int32)) % (5 : Int32))), .val (.int (own_f1 x1)), .val (.int (own_f1 x2)), .val (.int (own_f1 x3)), .val (.int (own_f1 x4)), .val (.ref a5), .unset] []))
            refine own_Goes.step (fun t k => XS.iload X19.here hx rfl (hb hby at_86) rfl k) ?_
            show own_Goes p e below s (own_F0 Z x0 x1 x2 x3 x4 n0 h0) room_1.cells room_1.slots (T19.setTop (mkF m 88 #[.val (.int x0), .val (.int x1), .val (.int x2), .val (.int x3), .val (.int x4), .val (.int ((x0 &&& (2147483647 : Int32)) % (5 : Int32))), .val (.int (own_f1 x1)), .val (.int (own_f1 x2)), .val (.int (own_f1 x3)), .val (.int (own_f1 x4)), .val (.ref a5), .unset] [(.int ((x0 &&& (2147483647 : Int32)) % (5 : Int32)))]))
            refine own_Goes.step (fun t k => XT.iconstV X19.here hx rfl (4 : Int32) (hb hby at_88) (by decide) k) ?_
            show own_Goes p e below s (own_F0 Z x0 x1 x2 x3 x4 n0 h0) room_1.cells room_1.slots (T19.setTop (mkF m 89 #[.val (.int x0), .val (.int x1), .val (.int x2), .val (.int x3), .val (.int x4), .val (.int ((x0 &&& (2147483647 : Int32)) % (5 : Int32))), .val (.int (own_f1 x1)), .val (.int (own_f1 x2)), .val (.int (own_f1 x3)), .val (.int (own_f1 x4)), .val (.ref a5), .unset] [(.int (4 : Int32)), (.int ((x0 &&& (2147483647 : Int32)) % (5 : Int32)))]))
            refine own_Goes.step (fun t k => XS.icmpYes X19.here hx rfl (pc0 := 89) (pc' := 106) rfl (hb hby at_89) rfl (XT.ii_lt_t (own_ltb (by decide) hc24)) (by decide) (by decide) k) ?_
            show own_Goes p e below s (own_F0 Z x0 x1 x2 x3 x4 n0 h0) room_1.cells room_1.slots (T19.setTop (mkF m 106 #[.val (.int x0), .val (.int x1), .val (.int x2), .val (.int x3), .val (.int x4), .val (.int ((x0 &&& (2147483647 : Int32)) % (5 : Int32))), .val (.int (own_f1 x1)), .val (.int (own_f1 x2)), .val (.int (own_f1 x3)), .val (.int (own_f1 x4)), .val (.ref a5), .unset] []))
            refine own_Goes.step (fun t k => XS.iload X19.here hx rfl (hb hby at_106) rfl k) ?_
            show own_Goes p e below s (own_F0 Z x0 x1 x2 x3 x4 n0 h0) room_1.cells room_1.slots (T19.setTop (mkF m 108 #[.val (.int x0), .val (.int x1), .val (.int x2), .val (.int x3), .val (.int x4), .val (.int ((x0 &&& (2147483647 : Int32)) % (5 : Int32))), .val (.int (own_f1 x1)), .val (.int (own_f1 x2)), .val (.int (own_f1 x3)), .val (.int (own_f1 x4)), .val (.ref a5), .unset] [(.int ((x0 &&& (2147483647 : Int32)) % (5 : Int32)))]))
            refine own_Goes.step (fun t k => XT.iconstV X19.here hx rfl (3 : Int32) (hb hby at_108) (by decide) k) ?_
            show own_Goes p e below s (own_F0 Z x0 x1 x2 x3 x4 n0 h0) room_1.cells room_1.slots (T19.setTop (mkF m 109 #[.val (.int x0), .val (.int x1), .val (.int x2), .val (.int x3), .val (.int x4), .val (.int ((x0 &&& (2147483647 : Int32)) % (5 : Int32))), .val (.int (own_f1 x1)), .val (.int (own_f1 x2)), .val (.int (own_f1 x3)), .val (.int (own_f1 x4)), .val (.ref a5), .unset] [(.int (3 : Int32)), (.int ((x0 &&& (2147483647 : Int32)) % (5 : Int32)))]))
            refine own_Goes.step (fun t k => XS.icmpNo X19.here hx rfl (hb hby at_109) rfl (XT.ii_lt_f (own_geb (by decide) hc18)) k) ?_
            show own_Goes p e below s (own_F0 Z x0 x1 x2 x3 x4 n0 h0) room_1.cells room_1.slots (T19.setTop (mkF m 112 #[.val (.int x0), .val (.int x1), .val (.int x2), .val (.int x3), .val (.int x4), .val (.int ((x0 &&& (2147483647 : Int32)) % (5 : Int32))), .val (.int (own_f1 x1)), .val (.int (own_f1 x2)), .val (.int (own_f1 x3)), .val (.int (own_f1 x4)), .val (.ref a5), .unset] []))
            refine own_Goes.step (fun t k => XS.iload X19.here hx rfl (hb hby at_112) rfl k) ?_
            show own_Goes p e below s (own_F0 Z x0 x1 x2 x3 x4 n0 h0) room_1.cells room_1.slots (T19.setTop (mkF m 114 #[.val (.int x0), .val (.int x1), .val (.int x2), .val (.int x3), .val (.int x4), .val (.int ((x0 &&& (2147483647 : Int32)) % (5 : Int32))), .val (.int (own_f1 x1)), .val (.int (own_f1 x2)), .val (.int (own_f1 x3)), .val (.int (own_f1 x4)), .val (.ref a5), .unset] [(.int (own_f1 x3))]))
            obtain ⟨w47, T47, L47, q47, Y47, st47⟩ := own_stat X19 hx hZ e19 hown (hw _ (List.mem_of_getElem? (i := 10) rfl)) (hw _ (List.mem_of_getElem? (i := 11) rfl)) (hw _ (List.mem_of_getElem? (i := 3) rfl)) (hw _ (List.mem_of_getElem? (i := 12) rfl)) (by decide) (own_m3 l Z a0 hw [] (own_f1 x3) h19 ) (by decide) (W := 0) (by decide) (by decide) (by decide) (g := (mkF m 114 #[.val (.int x0), .val (.int x1), .val (.int x2), .val (.int x3), .val (.int x4), .val (.int ((x0 &&& (2147483647 : Int32)) % (5 : Int32))), .val (.int (own_f1 x1)), .val (.int (own_f1 x2)), .val (.int (own_f1 x3)), .val (.int (own_f1 x4)), .val (.ref a5), .unset] [(.int (own_f1 x3))])) rfl (by rw [hml]; rfl) (argsL := [(.int (own_f1 x3))]) (rest := []) (lenOf pd_3 rfl) rfl (by show 2 * 0 + _ ≤ _; exact Nat.le_of_eq rfl) (hb hby at_114)
            obtain ⟨e47, X47⟩ := own_clean q47 Y47 rfl rfl
            obtain ⟨rfl, -, -⟩ := q47
            refine own_Goes.step st47 ?_
            show own_Goes p e below s (own_F0 Z x0 x1 x2 x3 x4 n0 h0) room_1.cells room_1.slots (T47.setTop (mkF m 117 #[.val (.int x0), .val (.int x1), .val (.int x2), .val (.int x3), .val (.int x4), .val (.int ((x0 &&& (2147483647 : Int32)) % (5 : Int32))), .val (.int (own_f1 x1)), .val (.int (own_f1 x2)), .val (.int (own_f1 x3)), .val (.int (own_f1 x4)), .val (.ref a5), .unset] [(.int (own_f3 (own_f1 x3)))]))
            by_cases hc48 : (own_f3 (own_f1 x3)) = (0 : Int32)
            · refine own_Goes.step (fun t k => XS.ifYes X47.here hx rfl (pc0 := 117) (pc' := 126) rfl (hb hby at_117) rfl (XT.i0_eq_t hc48) (by decide) (by decide) k) ?_
              show own_Goes p e below s (own_F0 Z x0 x1 x2 x3 x4 n0 h0) room_1.cells room_1.slots (T47.setTop (mkF m 126 #[.val (.int x0), .val (.int x1), .val (.int x2), .val (.int x3), .val (.int x4), .val (.int ((x0 &&& (2147483647 : Int32)) % (5 : Int32))), .val (.int (own_f1 x1)), .val (.int (own_f1 x2)), .val (.int (own_f1 x3)), .val (.int (own_f1 x4)), .val (.ref a5), .unset] []))
              refine own_Goes.step (fun t k => XS.iload X47.here hx rfl (hb hby at_126) rfl k) ?_
              show own_Goes p e below s (own_F0 Z x0 x1 x2 x3 x4 n0 h0) room_1.cells room_1.slots (T47.setTop (mkF m 128 #[.val (.int x0), .val (.int x1), .val (.int x2), .val (.int x3), .val (.int x4), .val (.int ((x0 &&& (2147483647 : Int32)) % (5 : Int32))), .val (.int (own_f1 x1)), .val (.int (own_f1 x2)), .val (.int (own_f1 x3)), .val (.int (own_f1 x4)), .val (.ref a5), .unset] [(.int ((x0 &&& (2147483647 : Int32)) % (5 : Int32)))]))
              refine own_Goes.step (fun t k => XT.iconstV X47.here hx rfl (2 : Int32) (hb hby at_128) (by decide) k) ?_
              show own_Goes p e below s (own_F0 Z x0 x1 x2 x3 x4 n0 h0) room_1.cells room_1.slots (T47.setTop (mkF m 129 #[.val (.int x0), .val (.int x1), .val (.int x2), .val (.int x3), .val (.int x4), .val (.int ((x0 &&& (2147483647 : Int32)) % (5 : Int32))), .val (.int (own_f1 x1)), .val (.int (own_f1 x2)), .val (.int (own_f1 x3)), .val (.int (own_f1 x4)), .val (.ref a5), .unset] [(.int (2 : Int32)), (.int ((x0 &&& (2147483647 : Int32)) % (5 : Int32)))]))
              refine own_Goes.step (fun t k => XS.icmpNo X47.here hx rfl (hb hby at_129) rfl (XT.ii_lt_f (own_geb (by decide) hc12)) k) ?_
              show own_Goes p e below s (own_F0 Z x0 x1 x2 x3 x4 n0 h0) room_1.cells room_1.slots (T47.setTop (mkF m 132 #[.val (.int x0), .val (.int x1), .val (.int x2), .val (.int x3), .val (.int x4), .val (.int ((x0 &&& (2147483647 : Int32)) % (5 : Int32))), .val (.int (own_f1 x1)), .val (.int (own_f1 x2)), .val (.int (own_f1 x3)), .val (.int (own_f1 x4)), .val (.ref a5), .unset] []))
              refine own_Goes.step (fun t k => XS.iload X47.here hx rfl (hb hby at_132) rfl k) ?_
              show own_Goes p e below s (own_F0 Z x0 x1 x2 x3 x4 n0 h0) room_1.cells room_1.slots (T47.setTop (mkF m 134 #[.val (.int x0), .val (.int x1), .val (.int x2), .val (.int x3), .val (.int x4), .val (.int ((x0 &&& (2147483647 : Int32)) % (5 : Int32))), .val (.int (own_f1 x1)), .val (.int (own_f1 x2)), .val (.int (own_f1 x3)), .val (.int (own_f1 x4)), .val (.ref a5), .unset] [(.int (own_f1 x2))]))
              obtain ⟨w49, T49, L49, q49, Y49, st49⟩ := own_stat X47 hx hZ e47 hown (hw _ (List.mem_of_getElem? (i := 10) rfl)) (hw _ (List.mem_of_getElem? (i := 11) rfl)) (hw _ (List.mem_of_getElem? (i := 3) rfl)) (hw _ (List.mem_of_getElem? (i := 12) rfl)) (by decide) (own_m3 l Z a0 hw [] (own_f1 x2) h19 ) (by decide) (W := 0) (by decide) (by decide) (by decide) (g := (mkF m 134 #[.val (.int x0), .val (.int x1), .val (.int x2), .val (.int x3), .val (.int x4), .val (.int ((x0 &&& (2147483647 : Int32)) % (5 : Int32))), .val (.int (own_f1 x1)), .val (.int (own_f1 x2)), .val (.int (own_f1 x3)), .val (.int (own_f1 x4)), .val (.ref a5), .unset] [(.int (own_f1 x2))])) rfl (by rw [hml]; rfl) (argsL := [(.int (own_f1 x2))]) (rest := []) (lenOf pd_3 rfl) rfl (by show 2 * 0 + _ ≤ _; exact Nat.le_of_eq rfl) (hb hby at_134)
              obtain ⟨e49, X49⟩ := own_clean q49 Y49 rfl rfl
              obtain ⟨rfl, -, -⟩ := q49
              refine own_Goes.step st49 ?_
              show own_Goes p e below s (own_F0 Z x0 x1 x2 x3 x4 n0 h0) room_1.cells room_1.slots (T49.setTop (mkF m 137 #[.val (.int x0), .val (.int x1), .val (.int x2), .val (.int x3), .val (.int x4), .val (.int ((x0 &&& (2147483647 : Int32)) % (5 : Int32))), .val (.int (own_f1 x1)), .val (.int (own_f1 x2)), .val (.int (own_f1 x3)), .val (.int (own_f1 x4)), .val (.ref a5), .unset] [(.int (own_f3 (own_f1 x2)))]))
              by_cases hc50 : (own_f3 (own_f1 x2)) = (0 : Int32)
              · refine own_Goes.step (fun t k => XS.ifYes X49.here hx rfl (pc0 := 137) (pc' := 146) rfl (hb hby at_137) rfl (XT.i0_eq_t hc50) (by decide) (by decide) k) ?_
                show own_Goes p e below s (own_F0 Z x0 x1 x2 x3 x4 n0 h0) room_1.cells room_1.slots (T49.setTop (mkF m 146 #[.val (.int x0), .val (.int x1), .val (.int x2), .val (.int x3), .val (.int x4), .val (.int ((x0 &&& (2147483647 : Int32)) % (5 : Int32))), .val (.int (own_f1 x1)), .val (.int (own_f1 x2)), .val (.int (own_f1 x3)), .val (.int (own_f1 x4)), .val (.ref a5), .unset] []))
                refine own_Goes.step (fun t k => XS.iload X49.here hx rfl (hb hby at_146) rfl k) ?_
                show own_Goes p e below s (own_F0 Z x0 x1 x2 x3 x4 n0 h0) room_1.cells room_1.slots (T49.setTop (mkF m 148 #[.val (.int x0), .val (.int x1), .val (.int x2), .val (.int x3), .val (.int x4), .val (.int ((x0 &&& (2147483647 : Int32)) % (5 : Int32))), .val (.int (own_f1 x1)), .val (.int (own_f1 x2)), .val (.int (own_f1 x3)), .val (.int (own_f1 x4)), .val (.ref a5), .unset] [(.int ((x0 &&& (2147483647 : Int32)) % (5 : Int32)))]))
                refine own_Goes.step (fun t k => XT.iconstV X49.here hx rfl (1 : Int32) (hb hby at_148) (by decide) k) ?_
                show own_Goes p e below s (own_F0 Z x0 x1 x2 x3 x4 n0 h0) room_1.cells room_1.slots (T49.setTop (mkF m 149 #[.val (.int x0), .val (.int x1), .val (.int x2), .val (.int x3), .val (.int x4), .val (.int ((x0 &&& (2147483647 : Int32)) % (5 : Int32))), .val (.int (own_f1 x1)), .val (.int (own_f1 x2)), .val (.int (own_f1 x3)), .val (.int (own_f1 x4)), .val (.ref a5), .unset] [(.int (1 : Int32)), (.int ((x0 &&& (2147483647 : Int32)) % (5 : Int32)))]))
                refine own_Goes.step (fun t k => XS.icmpNo X49.here hx rfl (hb hby at_149) rfl (XT.ii_lt_f (own_geb (by decide) hc6)) k) ?_
                show own_Goes p e below s (own_F0 Z x0 x1 x2 x3 x4 n0 h0) room_1.cells room_1.slots (T49.setTop (mkF m 152 #[.val (.int x0), .val (.int x1), .val (.int x2), .val (.int x3), .val (.int x4), .val (.int ((x0 &&& (2147483647 : Int32)) % (5 : Int32))), .val (.int (own_f1 x1)), .val (.int (own_f1 x2)), .val (.int (own_f1 x3)), .val (.int (own_f1 x4)), .val (.ref a5), .unset] []))
                refine own_Goes.step (fun t k => XS.iload X49.here hx rfl (hb hby at_152) rfl k) ?_
                show own_Goes p e below s (own_F0 Z x0 x1 x2 x3 x4 n0 h0) room_1.cells room_1.slots (T49.setTop (mkF m 154 #[.val (.int x0), .val (.int x1), .val (.int x2), .val (.int x3), .val (.int x4), .val (.int ((x0 &&& (2147483647 : Int32)) % (5 : Int32))), .val (.int (own_f1 x1)), .val (.int (own_f1 x2)), .val (.int (own_f1 x3)), .val (.int (own_f1 x4)), .val (.ref a5), .unset] [(.int (own_f1 x1))]))
                obtain ⟨w51, T51, L51, q51, Y51, st51⟩ := own_stat X49 hx hZ e49 hown (hw _ (List.mem_of_getElem? (i := 10) rfl)) (hw _ (List.mem_of_getElem? (i := 11) rfl)) (hw _ (List.mem_of_getElem? (i := 3) rfl)) (hw _ (List.mem_of_getElem? (i := 12) rfl)) (by decide) (own_m3 l Z a0 hw [] (own_f1 x1) h19 ) (by decide) (W := 0) (by decide) (by decide) (by decide) (g := (mkF m 154 #[.val (.int x0), .val (.int x1), .val (.int x2), .val (.int x3), .val (.int x4), .val (.int ((x0 &&& (2147483647 : Int32)) % (5 : Int32))), .val (.int (own_f1 x1)), .val (.int (own_f1 x2)), .val (.int (own_f1 x3)), .val (.int (own_f1 x4)), .val (.ref a5), .unset] [(.int (own_f1 x1))])) rfl (by rw [hml]; rfl) (argsL := [(.int (own_f1 x1))]) (rest := []) (lenOf pd_3 rfl) rfl (by show 2 * 0 + _ ≤ _; exact Nat.le_of_eq rfl) (hb hby at_154)
                obtain ⟨e51, X51⟩ := own_clean q51 Y51 rfl rfl
                obtain ⟨rfl, -, -⟩ := q51
                refine own_Goes.step st51 ?_
                show own_Goes p e below s (own_F0 Z x0 x1 x2 x3 x4 n0 h0) room_1.cells room_1.slots (T51.setTop (mkF m 157 #[.val (.int x0), .val (.int x1), .val (.int x2), .val (.int x3), .val (.int x4), .val (.int ((x0 &&& (2147483647 : Int32)) % (5 : Int32))), .val (.int (own_f1 x1)), .val (.int (own_f1 x2)), .val (.int (own_f1 x3)), .val (.int (own_f1 x4)), .val (.ref a5), .unset] [(.int (own_f3 (own_f1 x1)))]))
                have J55 : own_Goes p e below s (own_F0 Z x0 x1 x2 x3 x4 n0 h0) room_1.cells room_1.slots (T51.setTop (mkF m 169 #[.val (.int x0), .val (.int x1), .val (.int x2), .val (.int x3), .val (.int x4), .val (.int ((x0 &&& (2147483647 : Int32)) % (5 : Int32))), .val (.int (own_f1 x1)), .val (.int (own_f1 x2)), .val (.int (own_f1 x3)), .val (.int (own_f1 x4)), .val (.ref a5), .val (.int (own_f0_5 x0 x1 x2 x3 x4))] [])) := by
                  refine own_Goes.step (fun t k => XS.aload X51.here hx rfl (hb hby at_169) rfl rfl k) ?_
                  show own_Goes p e below s (own_F0 Z x0 x1 x2 x3 x4 n0 h0) room_1.cells room_1.slots (T51.setTop (mkF m 171 #[.val (.int x0), .val (.int x1), .val (.int x2), .val (.int x3), .val (.int x4), .val (.int ((x0 &&& (2147483647 : Int32)) % (5 : Int32))), .val (.int (own_f1 x1)), .val (.int (own_f1 x2)), .val (.int (own_f1 x3)), .val (.int (own_f1 x4)), .val (.ref a5), .val (.int (own_f0_5 x0 x1 x2 x3 x4))] [(.ref a5)]))
                  obtain ⟨w53, T53, L53, q53, Y53, st53⟩ := own_stat X51 hx hZ e51 hown (hw _ (List.mem_of_getElem? (i := 6) rfl)) (hw _ (List.mem_of_getElem? (i := 7) rfl)) (hw _ (List.mem_of_getElem? (i := 8) rfl)) (hw _ (List.mem_of_getElem? (i := 9) rfl)) (by decide) (own_m2 l Z a0 hw [] a5 (own_n x0) (own_f0_3 x0 x1 x2 x3 x4) n0 h19 f20 (Nat.lt_of_le_of_lt (own_n4 x0) (by decide))) (by decide) (W := 0) (by decide) (by decide) (by decide) (g := (mkF m 171 #[.val (.int x0), .val (.int x1), .val (.int x2), .val (.int x3), .val (.int x4), .val (.int ((x0 &&& (2147483647 : Int32)) % (5 : Int32))), .val (.int (own_f1 x1)), .val (.int (own_f1 x2)), .val (.int (own_f1 x3)), .val (.int (own_f1 x4)), .val (.ref a5), .val (.int (own_f0_5 x0 x1 x2 x3 x4))] [(.ref a5)])) rfl (by rw [hml]; rfl) (argsL := [(.ref a5)]) (rest := []) (lenOf pd_2 rfl) rfl (by show 2 * 0 + _ ≤ _; exact Nat.le_of_eq rfl) (hb hby at_171)
                  obtain ⟨e53, X53⟩ := own_clean q53 Y53 rfl rfl
                  obtain ⟨rfl, -, -⟩ := q53
                  refine own_Goes.step st53 ?_
                  show own_Goes p e below s (own_F0 Z x0 x1 x2 x3 x4 n0 h0) room_1.cells room_1.slots (T53.setTop (mkF m 174 #[.val (.int x0), .val (.int x1), .val (.int x2), .val (.int x3), .val (.int x4), .val (.int ((x0 &&& (2147483647 : Int32)) % (5 : Int32))), .val (.int (own_f1 x1)), .val (.int (own_f1 x2)), .val (.int (own_f1 x3)), .val (.int (own_f1 x4)), .val (.ref a5), .val (.int (own_f0_5 x0 x1 x2 x3 x4))] [(.int (own_nsl (own_f0_3 x0 x1 x2 x3 x4) (own_n x0)))]))
                  refine own_Goes.step (fun t k => XS.iload X53.here hx rfl (hb hby at_174) rfl k) ?_
                  show own_Goes p e below s (own_F0 Z x0 x1 x2 x3 x4 n0 h0) room_1.cells room_1.slots (T53.setTop (mkF m 176 #[.val (.int x0), .val (.int x1), .val (.int x2), .val (.int x3), .val (.int x4), .val (.int ((x0 &&& (2147483647 : Int32)) % (5 : Int32))), .val (.int (own_f1 x1)), .val (.int (own_f1 x2)), .val (.int (own_f1 x3)), .val (.int (own_f1 x4)), .val (.ref a5), .val (.int (own_f0_5 x0 x1 x2 x3 x4))] [(.int (own_f0_5 x0 x1 x2 x3 x4)), (.int (own_nsl (own_f0_3 x0 x1 x2 x3 x4) (own_n x0)))]))
                  by_cases hc54 : (own_nsl (own_f0_3 x0 x1 x2 x3 x4) (own_n x0)) = (own_f0_5 x0 x1 x2 x3 x4)
                  · refine own_Goes.step (fun t k => XS.icmpNo X53.here hx rfl (hb hby at_176) rfl (XT.ii_ne_f hc54) k) ?_
                    show own_Goes p e below s (own_F0 Z x0 x1 x2 x3 x4 n0 h0) room_1.cells room_1.slots (T53.setTop (mkF m 179 #[.val (.int x0), .val (.int x1), .val (.int x2), .val (.int x3), .val (.int x4), .val (.int ((x0 &&& (2147483647 : Int32)) % (5 : Int32))), .val (.int (own_f1 x1)), .val (.int (own_f1 x2)), .val (.int (own_f1 x3)), .val (.int (own_f1 x4)), .val (.ref a5), .val (.int (own_f0_5 x0 x1 x2 x3 x4))] []))
                    refine own_Goes.step (fun t k => XT.iconstV X53.here hx rfl (1 : Int32) (hb hby at_179) (by decide) k) ?_
                    show own_Goes p e below s (own_F0 Z x0 x1 x2 x3 x4 n0 h0) room_1.cells room_1.slots (T53.setTop (mkF m 180 #[.val (.int x0), .val (.int x1), .val (.int x2), .val (.int x3), .val (.int x4), .val (.int ((x0 &&& (2147483647 : Int32)) % (5 : Int32))), .val (.int (own_f1 x1)), .val (.int (own_f1 x2)), .val (.int (own_f1 x3)), .val (.int (own_f1 x4)), .val (.ref a5), .val (.int (own_f0_5 x0 x1 x2 x3 x4))] [(.int (1 : Int32))]))
                    refine own_Goes.step (fun t k => XS.goto X53.here hx rfl (pc0 := 180) (pc' := 184) rfl (hb hby at_180) (by decide) (by decide) k) ?_
                    show own_Goes p e below s (own_F0 Z x0 x1 x2 x3 x4 n0 h0) room_1.cells room_1.slots (T53.setTop (mkF m 184 #[.val (.int x0), .val (.int x1), .val (.int x2), .val (.int x3), .val (.int x4), .val (.int ((x0 &&& (2147483647 : Int32)) % (5 : Int32))), .val (.int (own_f1 x1)), .val (.int (own_f1 x2)), .val (.int (own_f1 x3)), .val (.int (own_f1 x4)), .val (.ref a5), .val (.int (own_f0_5 x0 x1 x2 x3 x4))] [(.int (1 : Int32))]))
                    exact own_endN X53 hx Bd.notSynchronized (t := .boolean) Bd.returns (by simp) (hb hby at_184) ⟨(congrArg (fun z => some (Value.int z)) (show (1 : Int32) = own_f0 x0 x1 x2 x3 x4 from by simp only [own_f0, if_pos hc6, if_pos hc12, if_pos hc18, if_neg hc24, if_pos hc48, if_pos hc50, if_pos hc54])), N22⟩ (by decide) (by decide)
                  · refine own_Goes.step (fun t k => XS.icmpYes X53.here hx rfl (pc0 := 176) (pc' := 183) rfl (hb hby at_176) rfl (XT.ii_ne_t hc54) (by decide) (by decide) k) ?_
                    show own_Goes p e below s (own_F0 Z x0 x1 x2 x3 x4 n0 h0) room_1.cells room_1.slots (T53.setTop (mkF m 183 #[.val (.int x0), .val (.int x1), .val (.int x2), .val (.int x3), .val (.int x4), .val (.int ((x0 &&& (2147483647 : Int32)) % (5 : Int32))), .val (.int (own_f1 x1)), .val (.int (own_f1 x2)), .val (.int (own_f1 x3)), .val (.int (own_f1 x4)), .val (.ref a5), .val (.int (own_f0_5 x0 x1 x2 x3 x4))] []))
                    refine own_Goes.step (fun t k => XT.iconstV X53.here hx rfl (0 : Int32) (hb hby at_183) (by decide) k) ?_
                    show own_Goes p e below s (own_F0 Z x0 x1 x2 x3 x4 n0 h0) room_1.cells room_1.slots (T53.setTop (mkF m 184 #[.val (.int x0), .val (.int x1), .val (.int x2), .val (.int x3), .val (.int x4), .val (.int ((x0 &&& (2147483647 : Int32)) % (5 : Int32))), .val (.int (own_f1 x1)), .val (.int (own_f1 x2)), .val (.int (own_f1 x3)), .val (.int (own_f1 x4)), .val (.ref a5), .val (.int (own_f0_5 x0 x1 x2 x3 x4))] [(.int (0 : Int32))]))
                    exact own_endN X53 hx Bd.notSynchronized (t := .boolean) Bd.returns (by simp) (hb hby at_184) ⟨(congrArg (fun z => some (Value.int z)) (show (0 : Int32) = own_f0 x0 x1 x2 x3 x4 from by simp only [own_f0, if_pos hc6, if_pos hc12, if_pos hc18, if_neg hc24, if_pos hc48, if_pos hc50, if_neg hc54])), N22⟩ (by decide) (by decide)
                by_cases hc52 : (own_f3 (own_f1 x1)) = (0 : Int32)
                · refine own_Goes.step (fun t k => XS.ifYes X51.here hx rfl (pc0 := 157) (pc' := 166) rfl (hb hby at_157) rfl (XT.i0_eq_t hc52) (by decide) (by decide) k) ?_
                  show own_Goes p e below s (own_F0 Z x0 x1 x2 x3 x4 n0 h0) room_1.cells room_1.slots (T51.setTop (mkF m 166 #[.val (.int x0), .val (.int x1), .val (.int x2), .val (.int x3), .val (.int x4), .val (.int ((x0 &&& (2147483647 : Int32)) % (5 : Int32))), .val (.int (own_f1 x1)), .val (.int (own_f1 x2)), .val (.int (own_f1 x3)), .val (.int (own_f1 x4)), .val (.ref a5), .unset] []))
                  refine own_Goes.step (fun t k => XT.iconstV X51.here hx rfl (0 : Int32) (hb hby at_166) (by decide) k) ?_
                  show own_Goes p e below s (own_F0 Z x0 x1 x2 x3 x4 n0 h0) room_1.cells room_1.slots (T51.setTop (mkF m 167 #[.val (.int x0), .val (.int x1), .val (.int x2), .val (.int x3), .val (.int x4), .val (.int ((x0 &&& (2147483647 : Int32)) % (5 : Int32))), .val (.int (own_f1 x1)), .val (.int (own_f1 x2)), .val (.int (own_f1 x3)), .val (.int (own_f1 x4)), .val (.ref a5), .unset] [(.int (0 : Int32))]))
                  refine own_Goes.step (fun t k => XS.istore X51.here hx rfl (hb hby at_167) rfl (l' := #[.val (.int x0), .val (.int x1), .val (.int x2), .val (.int x3), .val (.int x4), .val (.int ((x0 &&& (2147483647 : Int32)) % (5 : Int32))), .val (.int (own_f1 x1)), .val (.int (own_f1 x2)), .val (.int (own_f1 x3)), .val (.int (own_f1 x4)), .val (.ref a5), .val (.int (0 : Int32))]) rfl k) ?_
                  show own_Goes p e below s (own_F0 Z x0 x1 x2 x3 x4 n0 h0) room_1.cells room_1.slots (T51.setTop (mkF m 169 #[.val (.int x0), .val (.int x1), .val (.int x2), .val (.int x3), .val (.int x4), .val (.int ((x0 &&& (2147483647 : Int32)) % (5 : Int32))), .val (.int (own_f1 x1)), .val (.int (own_f1 x2)), .val (.int (own_f1 x3)), .val (.int (own_f1 x4)), .val (.ref a5), .val (.int (0 : Int32))] []))
                  rw [show (own_f0_5 x0 x1 x2 x3 x4) = (0 : Int32) from by simp only [own_f0_5, if_pos hc52]] at J55
                  exact J55
                · refine own_Goes.step (fun t k => XS.ifNo X51.here hx rfl (hb hby at_157) rfl (XT.i0_eq_f hc52) k) ?_
                  show own_Goes p e below s (own_F0 Z x0 x1 x2 x3 x4 n0 h0) room_1.cells room_1.slots (T51.setTop (mkF m 160 #[.val (.int x0), .val (.int x1), .val (.int x2), .val (.int x3), .val (.int x4), .val (.int ((x0 &&& (2147483647 : Int32)) % (5 : Int32))), .val (.int (own_f1 x1)), .val (.int (own_f1 x2)), .val (.int (own_f1 x3)), .val (.int (own_f1 x4)), .val (.ref a5), .unset] []))
                  refine own_Goes.step (fun t k => XT.iconstV X51.here hx rfl (1 : Int32) (hb hby at_160) (by decide) k) ?_
                  show own_Goes p e below s (own_F0 Z x0 x1 x2 x3 x4 n0 h0) room_1.cells room_1.slots (T51.setTop (mkF m 161 #[.val (.int x0), .val (.int x1), .val (.int x2), .val (.int x3), .val (.int x4), .val (.int ((x0 &&& (2147483647 : Int32)) % (5 : Int32))), .val (.int (own_f1 x1)), .val (.int (own_f1 x2)), .val (.int (own_f1 x3)), .val (.int (own_f1 x4)), .val (.ref a5), .unset] [(.int (1 : Int32))]))
                  refine own_Goes.step (fun t k => XS.istore X51.here hx rfl (hb hby at_161) rfl (l' := #[.val (.int x0), .val (.int x1), .val (.int x2), .val (.int x3), .val (.int x4), .val (.int ((x0 &&& (2147483647 : Int32)) % (5 : Int32))), .val (.int (own_f1 x1)), .val (.int (own_f1 x2)), .val (.int (own_f1 x3)), .val (.int (own_f1 x4)), .val (.ref a5), .val (.int (1 : Int32))]) rfl k) ?_
                  show own_Goes p e below s (own_F0 Z x0 x1 x2 x3 x4 n0 h0) room_1.cells room_1.slots (T51.setTop (mkF m 163 #[.val (.int x0), .val (.int x1), .val (.int x2), .val (.int x3), .val (.int x4), .val (.int ((x0 &&& (2147483647 : Int32)) % (5 : Int32))), .val (.int (own_f1 x1)), .val (.int (own_f1 x2)), .val (.int (own_f1 x3)), .val (.int (own_f1 x4)), .val (.ref a5), .val (.int (1 : Int32))] []))
                  refine own_Goes.step (fun t k => XS.goto X51.here hx rfl (pc0 := 163) (pc' := 169) rfl (hb hby at_163) (by decide) (by decide) k) ?_
                  show own_Goes p e below s (own_F0 Z x0 x1 x2 x3 x4 n0 h0) room_1.cells room_1.slots (T51.setTop (mkF m 169 #[.val (.int x0), .val (.int x1), .val (.int x2), .val (.int x3), .val (.int x4), .val (.int ((x0 &&& (2147483647 : Int32)) % (5 : Int32))), .val (.int (own_f1 x1)), .val (.int (own_f1 x2)), .val (.int (own_f1 x3)), .val (.int (own_f1 x4)), .val (.ref a5), .val (.int (1 : Int32))] []))
                  rw [show (own_f0_5 x0 x1 x2 x3 x4) = (1 : Int32) from by simp only [own_f0_5, if_neg hc52]] at J55
                  exact J55
              · refine own_Goes.step (fun t k => XS.ifNo X49.here hx rfl (hb hby at_137) rfl (XT.i0_eq_f hc50) k) ?_
                show own_Goes p e below s (own_F0 Z x0 x1 x2 x3 x4 n0 h0) room_1.cells room_1.slots (T49.setTop (mkF m 140 #[.val (.int x0), .val (.int x1), .val (.int x2), .val (.int x3), .val (.int x4), .val (.int ((x0 &&& (2147483647 : Int32)) % (5 : Int32))), .val (.int (own_f1 x1)), .val (.int (own_f1 x2)), .val (.int (own_f1 x3)), .val (.int (own_f1 x4)), .val (.ref a5), .unset] []))
                refine own_Goes.step (fun t k => XT.iconstV X49.here hx rfl (2 : Int32) (hb hby at_140) (by decide) k) ?_
                show own_Goes p e below s (own_F0 Z x0 x1 x2 x3 x4 n0 h0) room_1.cells room_1.slots (T49.setTop (mkF m 141 #[.val (.int x0), .val (.int x1), .val (.int x2), .val (.int x3), .val (.int x4), .val (.int ((x0 &&& (2147483647 : Int32)) % (5 : Int32))), .val (.int (own_f1 x1)), .val (.int (own_f1 x2)), .val (.int (own_f1 x3)), .val (.int (own_f1 x4)), .val (.ref a5), .unset] [(.int (2 : Int32))]))
                refine own_Goes.step (fun t k => XS.istore X49.here hx rfl (hb hby at_141) rfl (l' := #[.val (.int x0), .val (.int x1), .val (.int x2), .val (.int x3), .val (.int x4), .val (.int ((x0 &&& (2147483647 : Int32)) % (5 : Int32))), .val (.int (own_f1 x1)), .val (.int (own_f1 x2)), .val (.int (own_f1 x3)), .val (.int (own_f1 x4)), .val (.ref a5), .val (.int (2 : Int32))]) rfl k) ?_
                show own_Goes p e below s (own_F0 Z x0 x1 x2 x3 x4 n0 h0) room_1.cells room_1.slots (T49.setTop (mkF m 143 #[.val (.int x0), .val (.int x1), .val (.int x2), .val (.int x3), .val (.int x4), .val (.int ((x0 &&& (2147483647 : Int32)) % (5 : Int32))), .val (.int (own_f1 x1)), .val (.int (own_f1 x2)), .val (.int (own_f1 x3)), .val (.int (own_f1 x4)), .val (.ref a5), .val (.int (2 : Int32))] []))
                refine own_Goes.step (fun t k => XS.goto X49.here hx rfl (pc0 := 143) (pc' := 169) rfl (hb hby at_143) (by decide) (by decide) k) ?_
                show own_Goes p e below s (own_F0 Z x0 x1 x2 x3 x4 n0 h0) room_1.cells room_1.slots (T49.setTop (mkF m 169 #[.val (.int x0), .val (.int x1), .val (.int x2), .val (.int x3), .val (.int x4), .val (.int ((x0 &&& (2147483647 : Int32)) % (5 : Int32))), .val (.int (own_f1 x1)), .val (.int (own_f1 x2)), .val (.int (own_f1 x3)), .val (.int (own_f1 x4)), .val (.ref a5), .val (.int (2 : Int32))] []))
                refine own_Goes.step (fun t k => XS.aload X49.here hx rfl (hb hby at_169) rfl rfl k) ?_
                show own_Goes p e below s (own_F0 Z x0 x1 x2 x3 x4 n0 h0) room_1.cells room_1.slots (T49.setTop (mkF m 171 #[.val (.int x0), .val (.int x1), .val (.int x2), .val (.int x3), .val (.int x4), .val (.int ((x0 &&& (2147483647 : Int32)) % (5 : Int32))), .val (.int (own_f1 x1)), .val (.int (own_f1 x2)), .val (.int (own_f1 x3)), .val (.int (own_f1 x4)), .val (.ref a5), .val (.int (2 : Int32))] [(.ref a5)]))
                obtain ⟨w56, T56, L56, q56, Y56, st56⟩ := own_stat X49 hx hZ e49 hown (hw _ (List.mem_of_getElem? (i := 6) rfl)) (hw _ (List.mem_of_getElem? (i := 7) rfl)) (hw _ (List.mem_of_getElem? (i := 8) rfl)) (hw _ (List.mem_of_getElem? (i := 9) rfl)) (by decide) (own_m2 l Z a0 hw [] a5 (own_n x0) (own_f0_3 x0 x1 x2 x3 x4) n0 h19 f20 (Nat.lt_of_le_of_lt (own_n4 x0) (by decide))) (by decide) (W := 0) (by decide) (by decide) (by decide) (g := (mkF m 171 #[.val (.int x0), .val (.int x1), .val (.int x2), .val (.int x3), .val (.int x4), .val (.int ((x0 &&& (2147483647 : Int32)) % (5 : Int32))), .val (.int (own_f1 x1)), .val (.int (own_f1 x2)), .val (.int (own_f1 x3)), .val (.int (own_f1 x4)), .val (.ref a5), .val (.int (2 : Int32))] [(.ref a5)])) rfl (by rw [hml]; rfl) (argsL := [(.ref a5)]) (rest := []) (lenOf pd_2 rfl) rfl (by show 2 * 0 + _ ≤ _; exact Nat.le_of_eq rfl) (hb hby at_171)
                obtain ⟨e56, X56⟩ := own_clean q56 Y56 rfl rfl
                obtain ⟨rfl, -, -⟩ := q56
                refine own_Goes.step st56 ?_
                show own_Goes p e below s (own_F0 Z x0 x1 x2 x3 x4 n0 h0) room_1.cells room_1.slots (T56.setTop (mkF m 174 #[.val (.int x0), .val (.int x1), .val (.int x2), .val (.int x3), .val (.int x4), .val (.int ((x0 &&& (2147483647 : Int32)) % (5 : Int32))), .val (.int (own_f1 x1)), .val (.int (own_f1 x2)), .val (.int (own_f1 x3)), .val (.int (own_f1 x4)), .val (.ref a5), .val (.int (2 : Int32))] [(.int (own_nsl (own_f0_3 x0 x1 x2 x3 x4) (own_n x0)))]))
                refine own_Goes.step (fun t k => XS.iload X56.here hx rfl (hb hby at_174) rfl k) ?_
                show own_Goes p e below s (own_F0 Z x0 x1 x2 x3 x4 n0 h0) room_1.cells room_1.slots (T56.setTop (mkF m 176 #[.val (.int x0), .val (.int x1), .val (.int x2), .val (.int x3), .val (.int x4), .val (.int ((x0 &&& (2147483647 : Int32)) % (5 : Int32))), .val (.int (own_f1 x1)), .val (.int (own_f1 x2)), .val (.int (own_f1 x3)), .val (.int (own_f1 x4)), .val (.ref a5), .val (.int (2 : Int32))] [(.int (2 : Int32)), (.int (own_nsl (own_f0_3 x0 x1 x2 x3 x4) (own_n x0)))]))
                by_cases hc57 : (own_nsl (own_f0_3 x0 x1 x2 x3 x4) (own_n x0)) = (2 : Int32)
                · refine own_Goes.step (fun t k => XS.icmpNo X56.here hx rfl (hb hby at_176) rfl (XT.ii_ne_f hc57) k) ?_
                  show own_Goes p e below s (own_F0 Z x0 x1 x2 x3 x4 n0 h0) room_1.cells room_1.slots (T56.setTop (mkF m 179 #[.val (.int x0), .val (.int x1), .val (.int x2), .val (.int x3), .val (.int x4), .val (.int ((x0 &&& (2147483647 : Int32)) % (5 : Int32))), .val (.int (own_f1 x1)), .val (.int (own_f1 x2)), .val (.int (own_f1 x3)), .val (.int (own_f1 x4)), .val (.ref a5), .val (.int (2 : Int32))] []))
                  refine own_Goes.step (fun t k => XT.iconstV X56.here hx rfl (1 : Int32) (hb hby at_179) (by decide) k) ?_
                  show own_Goes p e below s (own_F0 Z x0 x1 x2 x3 x4 n0 h0) room_1.cells room_1.slots (T56.setTop (mkF m 180 #[.val (.int x0), .val (.int x1), .val (.int x2), .val (.int x3), .val (.int x4), .val (.int ((x0 &&& (2147483647 : Int32)) % (5 : Int32))), .val (.int (own_f1 x1)), .val (.int (own_f1 x2)), .val (.int (own_f1 x3)), .val (.int (own_f1 x4)), .val (.ref a5), .val (.int (2 : Int32))] [(.int (1 : Int32))]))
                  refine own_Goes.step (fun t k => XS.goto X56.here hx rfl (pc0 := 180) (pc' := 184) rfl (hb hby at_180) (by decide) (by decide) k) ?_
                  show own_Goes p e below s (own_F0 Z x0 x1 x2 x3 x4 n0 h0) room_1.cells room_1.slots (T56.setTop (mkF m 184 #[.val (.int x0), .val (.int x1), .val (.int x2), .val (.int x3), .val (.int x4), .val (.int ((x0 &&& (2147483647 : Int32)) % (5 : Int32))), .val (.int (own_f1 x1)), .val (.int (own_f1 x2)), .val (.int (own_f1 x3)), .val (.int (own_f1 x4)), .val (.ref a5), .val (.int (2 : Int32))] [(.int (1 : Int32))]))
                  exact own_endN X56 hx Bd.notSynchronized (t := .boolean) Bd.returns (by simp) (hb hby at_184) ⟨(congrArg (fun z => some (Value.int z)) (show (1 : Int32) = own_f0 x0 x1 x2 x3 x4 from by simp only [own_f0, if_pos hc6, if_pos hc12, if_pos hc18, if_neg hc24, if_pos hc48, if_neg hc50, if_pos hc57])), N22⟩ (by decide) (by decide)
                · refine own_Goes.step (fun t k => XS.icmpYes X56.here hx rfl (pc0 := 176) (pc' := 183) rfl (hb hby at_176) rfl (XT.ii_ne_t hc57) (by decide) (by decide) k) ?_
                  show own_Goes p e below s (own_F0 Z x0 x1 x2 x3 x4 n0 h0) room_1.cells room_1.slots (T56.setTop (mkF m 183 #[.val (.int x0), .val (.int x1), .val (.int x2), .val (.int x3), .val (.int x4), .val (.int ((x0 &&& (2147483647 : Int32)) % (5 : Int32))), .val (.int (own_f1 x1)), .val (.int (own_f1 x2)), .val (.int (own_f1 x3)), .val (.int (own_f1 x4)), .val (.ref a5), .val (.int (2 : Int32))] []))
                  refine own_Goes.step (fun t k => XT.iconstV X56.here hx rfl (0 : Int32) (hb hby at_183) (by decide) k) ?_
                  show own_Goes p e below s (own_F0 Z x0 x1 x2 x3 x4 n0 h0) room_1.cells room_1.slots (T56.setTop (mkF m 184 #[.val (.int x0), .val (.int x1), .val (.int x2), .val (.int x3), .val (.int x4), .val (.int ((x0 &&& (2147483647 : Int32)) % (5 : Int32))), .val (.int (own_f1 x1)), .val (.int (own_f1 x2)), .val (.int (own_f1 x3)), .val (.int (own_f1 x4)), .val (.ref a5), .val (.int (2 : Int32))] [(.int (0 : Int32))]))
                  exact own_endN X56 hx Bd.notSynchronized (t := .boolean) Bd.returns (by simp) (hb hby at_184) ⟨(congrArg (fun z => some (Value.int z)) (show (0 : Int32) = own_f0 x0 x1 x2 x3 x4 from by simp only [own_f0, if_pos hc6, if_pos hc12, if_pos hc18, if_neg hc24, if_pos hc48, if_neg hc50, if_neg hc57])), N22⟩ (by decide) (by decide)
            · refine own_Goes.step (fun t k => XS.ifNo X47.here hx rfl (hb hby at_117) rfl (XT.i0_eq_f hc48) k) ?_
              show own_Goes p e below s (own_F0 Z x0 x1 x2 x3 x4 n0 h0) room_1.cells room_1.slots (T47.setTop (mkF m 120 #[.val (.int x0), .val (.int x1), .val (.int x2), .val (.int x3), .val (.int x4), .val (.int ((x0 &&& (2147483647 : Int32)) % (5 : Int32))), .val (.int (own_f1 x1)), .val (.int (own_f1 x2)), .val (.int (own_f1 x3)), .val (.int (own_f1 x4)), .val (.ref a5), .unset] []))
              refine own_Goes.step (fun t k => XT.iconstV X47.here hx rfl (3 : Int32) (hb hby at_120) (by decide) k) ?_
              show own_Goes p e below s (own_F0 Z x0 x1 x2 x3 x4 n0 h0) room_1.cells room_1.slots (T47.setTop (mkF m 121 #[.val (.int x0), .val (.int x1), .val (.int x2), .val (.int x3), .val (.int x4), .val (.int ((x0 &&& (2147483647 : Int32)) % (5 : Int32))), .val (.int (own_f1 x1)), .val (.int (own_f1 x2)), .val (.int (own_f1 x3)), .val (.int (own_f1 x4)), .val (.ref a5), .unset] [(.int (3 : Int32))]))
              refine own_Goes.step (fun t k => XS.istore X47.here hx rfl (hb hby at_121) rfl (l' := #[.val (.int x0), .val (.int x1), .val (.int x2), .val (.int x3), .val (.int x4), .val (.int ((x0 &&& (2147483647 : Int32)) % (5 : Int32))), .val (.int (own_f1 x1)), .val (.int (own_f1 x2)), .val (.int (own_f1 x3)), .val (.int (own_f1 x4)), .val (.ref a5), .val (.int (3 : Int32))]) rfl k) ?_
              show own_Goes p e below s (own_F0 Z x0 x1 x2 x3 x4 n0 h0) room_1.cells room_1.slots (T47.setTop (mkF m 123 #[.val (.int x0), .val (.int x1), .val (.int x2), .val (.int x3), .val (.int x4), .val (.int ((x0 &&& (2147483647 : Int32)) % (5 : Int32))), .val (.int (own_f1 x1)), .val (.int (own_f1 x2)), .val (.int (own_f1 x3)), .val (.int (own_f1 x4)), .val (.ref a5), .val (.int (3 : Int32))] []))
              refine own_Goes.step (fun t k => XS.goto X47.here hx rfl (pc0 := 123) (pc' := 169) rfl (hb hby at_123) (by decide) (by decide) k) ?_
              show own_Goes p e below s (own_F0 Z x0 x1 x2 x3 x4 n0 h0) room_1.cells room_1.slots (T47.setTop (mkF m 169 #[.val (.int x0), .val (.int x1), .val (.int x2), .val (.int x3), .val (.int x4), .val (.int ((x0 &&& (2147483647 : Int32)) % (5 : Int32))), .val (.int (own_f1 x1)), .val (.int (own_f1 x2)), .val (.int (own_f1 x3)), .val (.int (own_f1 x4)), .val (.ref a5), .val (.int (3 : Int32))] []))
              refine own_Goes.step (fun t k => XS.aload X47.here hx rfl (hb hby at_169) rfl rfl k) ?_
              show own_Goes p e below s (own_F0 Z x0 x1 x2 x3 x4 n0 h0) room_1.cells room_1.slots (T47.setTop (mkF m 171 #[.val (.int x0), .val (.int x1), .val (.int x2), .val (.int x3), .val (.int x4), .val (.int ((x0 &&& (2147483647 : Int32)) % (5 : Int32))), .val (.int (own_f1 x1)), .val (.int (own_f1 x2)), .val (.int (own_f1 x3)), .val (.int (own_f1 x4)), .val (.ref a5), .val (.int (3 : Int32))] [(.ref a5)]))
              obtain ⟨w58, T58, L58, q58, Y58, st58⟩ := own_stat X47 hx hZ e47 hown (hw _ (List.mem_of_getElem? (i := 6) rfl)) (hw _ (List.mem_of_getElem? (i := 7) rfl)) (hw _ (List.mem_of_getElem? (i := 8) rfl)) (hw _ (List.mem_of_getElem? (i := 9) rfl)) (by decide) (own_m2 l Z a0 hw [] a5 (own_n x0) (own_f0_3 x0 x1 x2 x3 x4) n0 h19 f20 (Nat.lt_of_le_of_lt (own_n4 x0) (by decide))) (by decide) (W := 0) (by decide) (by decide) (by decide) (g := (mkF m 171 #[.val (.int x0), .val (.int x1), .val (.int x2), .val (.int x3), .val (.int x4), .val (.int ((x0 &&& (2147483647 : Int32)) % (5 : Int32))), .val (.int (own_f1 x1)), .val (.int (own_f1 x2)), .val (.int (own_f1 x3)), .val (.int (own_f1 x4)), .val (.ref a5), .val (.int (3 : Int32))] [(.ref a5)])) rfl (by rw [hml]; rfl) (argsL := [(.ref a5)]) (rest := []) (lenOf pd_2 rfl) rfl (by show 2 * 0 + _ ≤ _; exact Nat.le_of_eq rfl) (hb hby at_171)
              obtain ⟨e58, X58⟩ := own_clean q58 Y58 rfl rfl
              obtain ⟨rfl, -, -⟩ := q58
              refine own_Goes.step st58 ?_
              show own_Goes p e below s (own_F0 Z x0 x1 x2 x3 x4 n0 h0) room_1.cells room_1.slots (T58.setTop (mkF m 174 #[.val (.int x0), .val (.int x1), .val (.int x2), .val (.int x3), .val (.int x4), .val (.int ((x0 &&& (2147483647 : Int32)) % (5 : Int32))), .val (.int (own_f1 x1)), .val (.int (own_f1 x2)), .val (.int (own_f1 x3)), .val (.int (own_f1 x4)), .val (.ref a5), .val (.int (3 : Int32))] [(.int (own_nsl (own_f0_3 x0 x1 x2 x3 x4) (own_n x0)))]))
              refine own_Goes.step (fun t k => XS.iload X58.here hx rfl (hb hby at_174) rfl k) ?_
              show own_Goes p e below s (own_F0 Z x0 x1 x2 x3 x4 n0 h0) room_1.cells room_1.slots (T58.setTop (mkF m 176 #[.val (.int x0), .val (.int x1), .val (.int x2), .val (.int x3), .val (.int x4), .val (.int ((x0 &&& (2147483647 : Int32)) % (5 : Int32))), .val (.int (own_f1 x1)), .val (.int (own_f1 x2)), .val (.int (own_f1 x3)), .val (.int (own_f1 x4)), .val (.ref a5), .val (.int (3 : Int32))] [(.int (3 : Int32)), (.int (own_nsl (own_f0_3 x0 x1 x2 x3 x4) (own_n x0)))]))
              by_cases hc59 : (own_nsl (own_f0_3 x0 x1 x2 x3 x4) (own_n x0)) = (3 : Int32)
              · refine own_Goes.step (fun t k => XS.icmpNo X58.here hx rfl (hb hby at_176) rfl (XT.ii_ne_f hc59) k) ?_
                show own_Goes p e below s (own_F0 Z x0 x1 x2 x3 x4 n0 h0) room_1.cells room_1.slots (T58.setTop (mkF m 179 #[.val (.int x0), .val (.int x1), .val (.int x2), .val (.int x3), .val (.int x4), .val (.int ((x0 &&& (2147483647 : Int32)) % (5 : Int32))), .val (.int (own_f1 x1)), .val (.int (own_f1 x2)), .val (.int (own_f1 x3)), .val (.int (own_f1 x4)), .val (.ref a5), .val (.int (3 : Int32))] []))
                refine own_Goes.step (fun t k => XT.iconstV X58.here hx rfl (1 : Int32) (hb hby at_179) (by decide) k) ?_
                show own_Goes p e below s (own_F0 Z x0 x1 x2 x3 x4 n0 h0) room_1.cells room_1.slots (T58.setTop (mkF m 180 #[.val (.int x0), .val (.int x1), .val (.int x2), .val (.int x3), .val (.int x4), .val (.int ((x0 &&& (2147483647 : Int32)) % (5 : Int32))), .val (.int (own_f1 x1)), .val (.int (own_f1 x2)), .val (.int (own_f1 x3)), .val (.int (own_f1 x4)), .val (.ref a5), .val (.int (3 : Int32))] [(.int (1 : Int32))]))
                refine own_Goes.step (fun t k => XS.goto X58.here hx rfl (pc0 := 180) (pc' := 184) rfl (hb hby at_180) (by decide) (by decide) k) ?_
                show own_Goes p e below s (own_F0 Z x0 x1 x2 x3 x4 n0 h0) room_1.cells room_1.slots (T58.setTop (mkF m 184 #[.val (.int x0), .val (.int x1), .val (.int x2), .val (.int x3), .val (.int x4), .val (.int ((x0 &&& (2147483647 : Int32)) % (5 : Int32))), .val (.int (own_f1 x1)), .val (.int (own_f1 x2)), .val (.int (own_f1 x3)), .val (.int (own_f1 x4)), .val (.ref a5), .val (.int (3 : Int32))] [(.int (1 : Int32))]))
                exact own_endN X58 hx Bd.notSynchronized (t := .boolean) Bd.returns (by simp) (hb hby at_184) ⟨(congrArg (fun z => some (Value.int z)) (show (1 : Int32) = own_f0 x0 x1 x2 x3 x4 from by simp only [own_f0, if_pos hc6, if_pos hc12, if_pos hc18, if_neg hc24, if_neg hc48, if_pos hc59])), N22⟩ (by decide) (by decide)
              · refine own_Goes.step (fun t k => XS.icmpYes X58.here hx rfl (pc0 := 176) (pc' := 183) rfl (hb hby at_176) rfl (XT.ii_ne_t hc59) (by decide) (by decide) k) ?_
                show own_Goes p e below s (own_F0 Z x0 x1 x2 x3 x4 n0 h0) room_1.cells room_1.slots (T58.setTop (mkF m 183 #[.val (.int x0), .val (.int x1), .val (.int x2), .val (.int x3), .val (.int x4), .val (.int ((x0 &&& (2147483647 : Int32)) % (5 : Int32))), .val (.int (own_f1 x1)), .val (.int (own_f1 x2)), .val (.int (own_f1 x3)), .val (.int (own_f1 x4)), .val (.ref a5), .val (.int (3 : Int32))] []))
                refine own_Goes.step (fun t k => XT.iconstV X58.here hx rfl (0 : Int32) (hb hby at_183) (by decide) k) ?_
                show own_Goes p e below s (own_F0 Z x0 x1 x2 x3 x4 n0 h0) room_1.cells room_1.slots (T58.setTop (mkF m 184 #[.val (.int x0), .val (.int x1), .val (.int x2), .val (.int x3), .val (.int x4), .val (.int ((x0 &&& (2147483647 : Int32)) % (5 : Int32))), .val (.int (own_f1 x1)), .val (.int (own_f1 x2)), .val (.int (own_f1 x3)), .val (.int (own_f1 x4)), .val (.ref a5), .val (.int (3 : Int32))] [(.int (0 : Int32))]))
                exact own_endN X58 hx Bd.notSynchronized (t := .boolean) Bd.returns (by simp) (hb hby at_184) ⟨(congrArg (fun z => some (Value.int z)) (show (0 : Int32) = own_f0 x0 x1 x2 x3 x4 from by simp only [own_f0, if_pos hc6, if_pos hc12, if_pos hc18, if_neg hc24, if_neg hc48, if_neg hc59])), N22⟩ (by decide) (by decide)
        · refine own_Goes.step (fun t k => XS.icmpYes X13.here hx rfl (pc0 := 65) (pc' := 74) rfl (hb hby at_65) rfl (XT.ii_le_t hc18) (by decide) (by decide) k) ?_
          show own_Goes p e below s (own_F0 Z x0 x1 x2 x3 x4 n0 h0) room_1.cells room_1.slots (T13.setTop (mkF m 74 #[.val (.int x0), .val (.int x1), .val (.int x2), .val (.int x3), .val (.int x4), .val (.int ((x0 &&& (2147483647 : Int32)) % (5 : Int32))), .val (.int (own_f1 x1)), .val (.int (own_f1 x2)), .val (.int (own_f1 x3)), .val (.int (own_f1 x4)), .val (.ref a5), .unset] []))
          refine own_Goes.step (fun t k => XS.iload X13.here hx rfl (hb hby at_74) rfl k) ?_
          show own_Goes p e below s (own_F0 Z x0 x1 x2 x3 x4 n0 h0) room_1.cells room_1.slots (T13.setTop (mkF m 76 #[.val (.int x0), .val (.int x1), .val (.int x2), .val (.int x3), .val (.int x4), .val (.int ((x0 &&& (2147483647 : Int32)) % (5 : Int32))), .val (.int (own_f1 x1)), .val (.int (own_f1 x2)), .val (.int (own_f1 x3)), .val (.int (own_f1 x4)), .val (.ref a5), .unset] [(.int ((x0 &&& (2147483647 : Int32)) % (5 : Int32)))]))
          refine own_Goes.step (fun t k => XT.iconstV X13.here hx rfl (3 : Int32) (hb hby at_76) (by decide) k) ?_
          show own_Goes p e below s (own_F0 Z x0 x1 x2 x3 x4 n0 h0) room_1.cells room_1.slots (T13.setTop (mkF m 77 #[.val (.int x0), .val (.int x1), .val (.int x2), .val (.int x3), .val (.int x4), .val (.int ((x0 &&& (2147483647 : Int32)) % (5 : Int32))), .val (.int (own_f1 x1)), .val (.int (own_f1 x2)), .val (.int (own_f1 x3)), .val (.int (own_f1 x4)), .val (.ref a5), .unset] [(.int (3 : Int32)), (.int ((x0 &&& (2147483647 : Int32)) % (5 : Int32)))]))
          refine own_Goes.step (fun t k => XS.icmpYes X13.here hx rfl (pc0 := 77) (pc' := 86) rfl (hb hby at_77) rfl (XT.ii_le_t (own_nlt (by decide) hc18)) (by decide) (by decide) k) ?_
          show own_Goes p e below s (own_F0 Z x0 x1 x2 x3 x4 n0 h0) room_1.cells room_1.slots (T13.setTop (mkF m 86 #[.val (.int x0), .val (.int x1), .val (.int x2), .val (.int x3), .val (.int x4), .val (.int ((x0 &&& (2147483647 : Int32)) % (5 : Int32))), .val (.int (own_f1 x1)), .val (.int (own_f1 x2)), .val (.int (own_f1 x3)), .val (.int (own_f1 x4)), .val (.ref a5), .unset] []))
          refine own_Goes.step (fun t k => XS.iload X13.here hx rfl (hb hby at_86) rfl k) ?_
          show own_Goes p e below s (own_F0 Z x0 x1 x2 x3 x4 n0 h0) room_1.cells room_1.slots (T13.setTop (mkF m 88 #[.val (.int x0), .val (.int x1), .val (.int x2), .val (.int x3), .val (.int x4), .val (.int ((x0 &&& (2147483647 : Int32)) % (5 : Int32))), .val (.int (own_f1 x1)), .val (.int (own_f1 x2)), .val (.int (own_f1 x3)), .val (.int (own_f1 x4)), .val (.ref a5), .unset] [(.int ((x0 &&& (2147483647 : Int32)) % (5 : Int32)))]))
          refine own_Goes.step (fun t k => XT.iconstV X13.here hx rfl (4 : Int32) (hb hby at_88) (by decide) k) ?_
          show own_Goes p e below s (own_F0 Z x0 x1 x2 x3 x4 n0 h0) room_1.cells room_1.slots (T13.setTop (mkF m 89 #[.val (.int x0), .val (.int x1), .val (.int x2), .val (.int x3), .val (.int x4), .val (.int ((x0 &&& (2147483647 : Int32)) % (5 : Int32))), .val (.int (own_f1 x1)), .val (.int (own_f1 x2)), .val (.int (own_f1 x3)), .val (.int (own_f1 x4)), .val (.ref a5), .unset] [(.int (4 : Int32)), (.int ((x0 &&& (2147483647 : Int32)) % (5 : Int32)))]))
          refine own_Goes.step (fun t k => XS.icmpYes X13.here hx rfl (pc0 := 89) (pc' := 106) rfl (hb hby at_89) rfl (XT.ii_lt_t (own_ltb (by decide) hc18)) (by decide) (by decide) k) ?_
          show own_Goes p e below s (own_F0 Z x0 x1 x2 x3 x4 n0 h0) room_1.cells room_1.slots (T13.setTop (mkF m 106 #[.val (.int x0), .val (.int x1), .val (.int x2), .val (.int x3), .val (.int x4), .val (.int ((x0 &&& (2147483647 : Int32)) % (5 : Int32))), .val (.int (own_f1 x1)), .val (.int (own_f1 x2)), .val (.int (own_f1 x3)), .val (.int (own_f1 x4)), .val (.ref a5), .unset] []))
          refine own_Goes.step (fun t k => XS.iload X13.here hx rfl (hb hby at_106) rfl k) ?_
          show own_Goes p e below s (own_F0 Z x0 x1 x2 x3 x4 n0 h0) room_1.cells room_1.slots (T13.setTop (mkF m 108 #[.val (.int x0), .val (.int x1), .val (.int x2), .val (.int x3), .val (.int x4), .val (.int ((x0 &&& (2147483647 : Int32)) % (5 : Int32))), .val (.int (own_f1 x1)), .val (.int (own_f1 x2)), .val (.int (own_f1 x3)), .val (.int (own_f1 x4)), .val (.ref a5), .unset] [(.int ((x0 &&& (2147483647 : Int32)) % (5 : Int32)))]))
          refine own_Goes.step (fun t k => XT.iconstV X13.here hx rfl (3 : Int32) (hb hby at_108) (by decide) k) ?_
          show own_Goes p e below s (own_F0 Z x0 x1 x2 x3 x4 n0 h0) room_1.cells room_1.slots (T13.setTop (mkF m 109 #[.val (.int x0), .val (.int x1), .val (.int x2), .val (.int x3), .val (.int x4), .val (.int ((x0 &&& (2147483647 : Int32)) % (5 : Int32))), .val (.int (own_f1 x1)), .val (.int (own_f1 x2)), .val (.int (own_f1 x3)), .val (.int (own_f1 x4)), .val (.ref a5), .unset] [(.int (3 : Int32)), (.int ((x0 &&& (2147483647 : Int32)) % (5 : Int32)))]))
          refine own_Goes.step (fun t k => XS.icmpYes X13.here hx rfl (pc0 := 109) (pc' := 126) rfl (hb hby at_109) rfl (XT.ii_lt_t (own_ltb (by decide) hc18)) (by decide) (by decide) k) ?_
          show own_Goes p e below s (own_F0 Z x0 x1 x2 x3 x4 n0 h0) room_1.cells room_1.slots (T13.setTop (mkF m 126 #[.val (.int x0), .val (.int x1), .val (.int x2), .val (.int x3), .val (.int x4), .val (.int ((x0 &&& (2147483647 : Int32)) % (5 : Int32))), .val (.int (own_f1 x1)), .val (.int (own_f1 x2)), .val (.int (own_f1 x3)), .val (.int (own_f1 x4)), .val (.ref a5), .unset] []))
          refine own_Goes.step (fun t k => XS.iload X13.here hx rfl (hb hby at_126) rfl k) ?_
          show own_Goes p e below s (own_F0 Z x0 x1 x2 x3 x4 n0 h0) room_1.cells room_1.slots (T13.setTop (mkF m 128 #[.val (.int x0), .val (.int x1), .val (.int x2), .val (.int x3), .val (.int x4), .val (.int ((x0 &&& (2147483647 : Int32)) % (5 : Int32))), .val (.int (own_f1 x1)), .val (.int (own_f1 x2)), .val (.int (own_f1 x3)), .val (.int (own_f1 x4)), .val (.ref a5), .unset] [(.int ((x0 &&& (2147483647 : Int32)) % (5 : Int32)))]))
          refine own_Goes.step (fun t k => XT.iconstV X13.here hx rfl (2 : Int32) (hb hby at_128) (by decide) k) ?_
          show own_Goes p e below s (own_F0 Z x0 x1 x2 x3 x4 n0 h0) room_1.cells room_1.slots (T13.setTop (mkF m 129 #[.val (.int x0), .val (.int x1), .val (.int x2), .val (.int x3), .val (.int x4), .val (.int ((x0 &&& (2147483647 : Int32)) % (5 : Int32))), .val (.int (own_f1 x1)), .val (.int (own_f1 x2)), .val (.int (own_f1 x3)), .val (.int (own_f1 x4)), .val (.ref a5), .unset] [(.int (2 : Int32)), (.int ((x0 &&& (2147483647 : Int32)) % (5 : Int32)))]))
          refine own_Goes.step (fun t k => XS.icmpNo X13.here hx rfl (hb hby at_129) rfl (XT.ii_lt_f (own_geb (by decide) hc12)) k) ?_
          show own_Goes p e below s (own_F0 Z x0 x1 x2 x3 x4 n0 h0) room_1.cells room_1.slots (T13.setTop (mkF m 132 #[.val (.int x0), .val (.int x1), .val (.int x2), .val (.int x3), .val (.int x4), .val (.int ((x0 &&& (2147483647 : Int32)) % (5 : Int32))), .val (.int (own_f1 x1)), .val (.int (own_f1 x2)), .val (.int (own_f1 x3)), .val (.int (own_f1 x4)), .val (.ref a5), .unset] []))
          refine own_Goes.step (fun t k => XS.iload X13.here hx rfl (hb hby at_132) rfl k) ?_
          show own_Goes p e below s (own_F0 Z x0 x1 x2 x3 x4 n0 h0) room_1.cells room_1.slots (T13.setTop (mkF m 134 #[.val (.int x0), .val (.int x1), .val (.int x2), .val (.int x3), .val (.int x4), .val (.int ((x0 &&& (2147483647 : Int32)) % (5 : Int32))), .val (.int (own_f1 x1)), .val (.int (own_f1 x2)), .val (.int (own_f1 x3)), .val (.int (own_f1 x4)), .val (.ref a5), .unset] [(.int (own_f1 x2))]))
          obtain ⟨w60, T60, L60, q60, Y60, st60⟩ := own_stat X13 hx hZ e13 hown (hw _ (List.mem_of_getElem? (i := 10) rfl)) (hw _ (List.mem_of_getElem? (i := 11) rfl)) (hw _ (List.mem_of_getElem? (i := 3) rfl)) (hw _ (List.mem_of_getElem? (i := 12) rfl)) (by decide) (own_m3 l Z a0 hw [] (own_f1 x2) h13 ) (by decide) (W := 0) (by decide) (by decide) (by decide) (g := (mkF m 134 #[.val (.int x0), .val (.int x1), .val (.int x2), .val (.int x3), .val (.int x4), .val (.int ((x0 &&& (2147483647 : Int32)) % (5 : Int32))), .val (.int (own_f1 x1)), .val (.int (own_f1 x2)), .val (.int (own_f1 x3)), .val (.int (own_f1 x4)), .val (.ref a5), .unset] [(.int (own_f1 x2))])) rfl (by rw [hml]; rfl) (argsL := [(.int (own_f1 x2))]) (rest := []) (lenOf pd_3 rfl) rfl (by show 2 * 0 + _ ≤ _; exact Nat.le_of_eq rfl) (hb hby at_134)
          obtain ⟨e60, X60⟩ := own_clean q60 Y60 rfl rfl
          obtain ⟨rfl, -, -⟩ := q60
          refine own_Goes.step st60 ?_
          show own_Goes p e below s (own_F0 Z x0 x1 x2 x3 x4 n0 h0) room_1.cells room_1.slots (T60.setTop (mkF m 137 #[.val (.int x0), .val (.int x1), .val (.int x2), .val (.int x3), .val (.int x4), .val (.int ((x0 &&& (2147483647 : Int32)) % (5 : Int32))), .val (.int (own_f1 x1)), .val (.int (own_f1 x2)), .val (.int (own_f1 x3)), .val (.int (own_f1 x4)), .val (.ref a5), .unset] [(.int (own_f3 (own_f1 x2)))]))
          by_cases hc61 : (own_f3 (own_f1 x2)) = (0 : Int32)
          · refine own_Goes.step (fun t k => XS.ifYes X60.here hx rfl (pc0 := 137) (pc' := 146) rfl (hb hby at_137) rfl (XT.i0_eq_t hc61) (by decide) (by decide) k) ?_
            show own_Goes p e below s (own_F0 Z x0 x1 x2 x3 x4 n0 h0) room_1.cells room_1.slots (T60.setTop (mkF m 146 #[.val (.int x0), .val (.int x1), .val (.int x2), .val (.int x3), .val (.int x4), .val (.int ((x0 &&& (2147483647 : Int32)) % (5 : Int32))), .val (.int (own_f1 x1)), .val (.int (own_f1 x2)), .val (.int (own_f1 x3)), .val (.int (own_f1 x4)), .val (.ref a5), .unset] []))
            refine own_Goes.step (fun t k => XS.iload X60.here hx rfl (hb hby at_146) rfl k) ?_
            show own_Goes p e below s (own_F0 Z x0 x1 x2 x3 x4 n0 h0) room_1.cells room_1.slots (T60.setTop (mkF m 148 #[.val (.int x0), .val (.int x1), .val (.int x2), .val (.int x3), .val (.int x4), .val (.int ((x0 &&& (2147483647 : Int32)) % (5 : Int32))), .val (.int (own_f1 x1)), .val (.int (own_f1 x2)), .val (.int (own_f1 x3)), .val (.int (own_f1 x4)), .val (.ref a5), .unset] [(.int ((x0 &&& (2147483647 : Int32)) % (5 : Int32)))]))
            refine own_Goes.step (fun t k => XT.iconstV X60.here hx rfl (1 : Int32) (hb hby at_148) (by decide) k) ?_
            show own_Goes p e below s (own_F0 Z x0 x1 x2 x3 x4 n0 h0) room_1.cells room_1.slots (T60.setTop (mkF m 149 #[.val (.int x0), .val (.int x1), .val (.int x2), .val (.int x3), .val (.int x4), .val (.int ((x0 &&& (2147483647 : Int32)) % (5 : Int32))), .val (.int (own_f1 x1)), .val (.int (own_f1 x2)), .val (.int (own_f1 x3)), .val (.int (own_f1 x4)), .val (.ref a5), .unset] [(.int (1 : Int32)), (.int ((x0 &&& (2147483647 : Int32)) % (5 : Int32)))]))
            refine own_Goes.step (fun t k => XS.icmpNo X60.here hx rfl (hb hby at_149) rfl (XT.ii_lt_f (own_geb (by decide) hc6)) k) ?_
            show own_Goes p e below s (own_F0 Z x0 x1 x2 x3 x4 n0 h0) room_1.cells room_1.slots (T60.setTop (mkF m 152 #[.val (.int x0), .val (.int x1), .val (.int x2), .val (.int x3), .val (.int x4), .val (.int ((x0 &&& (2147483647 : Int32)) % (5 : Int32))), .val (.int (own_f1 x1)), .val (.int (own_f1 x2)), .val (.int (own_f1 x3)), .val (.int (own_f1 x4)), .val (.ref a5), .unset] []))
            refine own_Goes.step (fun t k => XS.iload X60.here hx rfl (hb hby at_152) rfl k) ?_
            show own_Goes p e below s (own_F0 Z x0 x1 x2 x3 x4 n0 h0) room_1.cells room_1.slots (T60.setTop (mkF m 154 #[.val (.int x0), .val (.int x1), .val (.int x2), .val (.int x3), .val (.int x4), .val (.int ((x0 &&& (2147483647 : Int32)) % (5 : Int32))), .val (.int (own_f1 x1)), .val (.int (own_f1 x2)), .val (.int (own_f1 x3)), .val (.int (own_f1 x4)), .val (.ref a5), .unset] [(.int (own_f1 x1))]))
            obtain ⟨w62, T62, L62, q62, Y62, st62⟩ := own_stat X60 hx hZ e60 hown (hw _ (List.mem_of_getElem? (i := 10) rfl)) (hw _ (List.mem_of_getElem? (i := 11) rfl)) (hw _ (List.mem_of_getElem? (i := 3) rfl)) (hw _ (List.mem_of_getElem? (i := 12) rfl)) (by decide) (own_m3 l Z a0 hw [] (own_f1 x1) h13 ) (by decide) (W := 0) (by decide) (by decide) (by decide) (g := (mkF m 154 #[.val (.int x0), .val (.int x1), .val (.int x2), .val (.int x3), .val (.int x4), .val (.int ((x0 &&& (2147483647 : Int32)) % (5 : Int32))), .val (.int (own_f1 x1)), .val (.int (own_f1 x2)), .val (.int (own_f1 x3)), .val (.int (own_f1 x4)), .val (.ref a5), .unset] [(.int (own_f1 x1))])) rfl (by rw [hml]; rfl) (argsL := [(.int (own_f1 x1))]) (rest := []) (lenOf pd_3 rfl) rfl (by show 2 * 0 + _ ≤ _; exact Nat.le_of_eq rfl) (hb hby at_154)
            obtain ⟨e62, X62⟩ := own_clean q62 Y62 rfl rfl
            obtain ⟨rfl, -, -⟩ := q62
            refine own_Goes.step st62 ?_
            show own_Goes p e below s (own_F0 Z x0 x1 x2 x3 x4 n0 h0) room_1.cells room_1.slots (T62.setTop (mkF m 157 #[.val (.int x0), .val (.int x1), .val (.int x2), .val (.int x3), .val (.int x4), .val (.int ((x0 &&& (2147483647 : Int32)) % (5 : Int32))), .val (.int (own_f1 x1)), .val (.int (own_f1 x2)), .val (.int (own_f1 x3)), .val (.int (own_f1 x4)), .val (.ref a5), .unset] [(.int (own_f3 (own_f1 x1)))]))
            have J66 : own_Goes p e below s (own_F0 Z x0 x1 x2 x3 x4 n0 h0) room_1.cells room_1.slots (T62.setTop (mkF m 169 #[.val (.int x0), .val (.int x1), .val (.int x2), .val (.int x3), .val (.int x4), .val (.int ((x0 &&& (2147483647 : Int32)) % (5 : Int32))), .val (.int (own_f1 x1)), .val (.int (own_f1 x2)), .val (.int (own_f1 x3)), .val (.int (own_f1 x4)), .val (.ref a5), .val (.int (own_f0_5 x0 x1 x2 x3 x4))] [])) := by
              refine own_Goes.step (fun t k => XS.aload X62.here hx rfl (hb hby at_169) rfl rfl k) ?_
              show own_Goes p e below s (own_F0 Z x0 x1 x2 x3 x4 n0 h0) room_1.cells room_1.slots (T62.setTop (mkF m 171 #[.val (.int x0), .val (.int x1), .val (.int x2), .val (.int x3), .val (.int x4), .val (.int ((x0 &&& (2147483647 : Int32)) % (5 : Int32))), .val (.int (own_f1 x1)), .val (.int (own_f1 x2)), .val (.int (own_f1 x3)), .val (.int (own_f1 x4)), .val (.ref a5), .val (.int (own_f0_5 x0 x1 x2 x3 x4))] [(.ref a5)]))
              obtain ⟨w64, T64, L64, q64, Y64, st64⟩ := own_stat X62 hx hZ e62 hown (hw _ (List.mem_of_getElem? (i := 6) rfl)) (hw _ (List.mem_of_getElem? (i := 7) rfl)) (hw _ (List.mem_of_getElem? (i := 8) rfl)) (hw _ (List.mem_of_getElem? (i := 9) rfl)) (by decide) (own_m2 l Z a0 hw [] a5 (own_n x0) (own_f0_2 x0 x1 x2 x3 x4) n0 h13 f14 (Nat.lt_of_le_of_lt (own_n4 x0) (by decide))) (by decide) (W := 0) (by decide) (by decide) (by decide) (g := (mkF m 171 #[.val (.int x0), .val (.int x1), .val (.int x2), .val (.int x3), .val (.int x4), .val (.int ((x0 &&& (2147483647 : Int32)) % (5 : Int32))), .val (.int (own_f1 x1)), .val (.int (own_f1 x2)), .val (.int (own_f1 x3)), .val (.int (own_f1 x4)), .val (.ref a5), .val (.int (own_f0_5 x0 x1 x2 x3 x4))] [(.ref a5)])) rfl (by rw [hml]; rfl) (argsL := [(.ref a5)]) (rest := []) (lenOf pd_2 rfl) rfl (by show 2 * 0 + _ ≤ _; exact Nat.le_of_eq rfl) (hb hby at_171)
              obtain ⟨e64, X64⟩ := own_clean q64 Y64 rfl rfl
              obtain ⟨rfl, -, -⟩ := q64
              refine own_Goes.step st64 ?_
              show own_Goes p e below s (own_F0 Z x0 x1 x2 x3 x4 n0 h0) room_1.cells room_1.slots (T64.setTop (mkF m 174 #[.val (.int x0), .val (.int x1), .val (.int x2), .val (.int x3), .val (.int x4), .val (.int ((x0 &&& (2147483647 : Int32)) % (5 : Int32))), .val (.int (own_f1 x1)), .val (.int (own_f1 x2)), .val (.int (own_f1 x3)), .val (.int (own_f1 x4)), .val (.ref a5), .val (.int (own_f0_5 x0 x1 x2 x3 x4))] [(.int (own_nsl (own_f0_2 x0 x1 x2 x3 x4) (own_n x0)))]))
              refine own_Goes.step (fun t k => XS.iload X64.here hx rfl (hb hby at_174) rfl k) ?_
              show own_Goes p e below s (own_F0 Z x0 x1 x2 x3 x4 n0 h0) room_1.cells room_1.slots (T64.setTop (mkF m 176 #[.val (.int x0), .val (.int x1), .val (.int x2), .val (.int x3), .val (.int x4), .val (.int ((x0 &&& (2147483647 : Int32)) % (5 : Int32))), .val (.int (own_f1 x1)), .val (.int (own_f1 x2)), .val (.int (own_f1 x3)), .val (.int (own_f1 x4)), .val (.ref a5), .val (.int (own_f0_5 x0 x1 x2 x3 x4))] [(.int (own_f0_5 x0 x1 x2 x3 x4)), (.int (own_nsl (own_f0_2 x0 x1 x2 x3 x4) (own_n x0)))]))
              by_cases hc65 : (own_nsl (own_f0_2 x0 x1 x2 x3 x4) (own_n x0)) = (own_f0_5 x0 x1 x2 x3 x4)
              · refine own_Goes.step (fun t k => XS.icmpNo X64.here hx rfl (hb hby at_176) rfl (XT.ii_ne_f hc65) k) ?_
                show own_Goes p e below s (own_F0 Z x0 x1 x2 x3 x4 n0 h0) room_1.cells room_1.slots (T64.setTop (mkF m 179 #[.val (.int x0), .val (.int x1), .val (.int x2), .val (.int x3), .val (.int x4), .val (.int ((x0 &&& (2147483647 : Int32)) % (5 : Int32))), .val (.int (own_f1 x1)), .val (.int (own_f1 x2)), .val (.int (own_f1 x3)), .val (.int (own_f1 x4)), .val (.ref a5), .val (.int (own_f0_5 x0 x1 x2 x3 x4))] []))
                refine own_Goes.step (fun t k => XT.iconstV X64.here hx rfl (1 : Int32) (hb hby at_179) (by decide) k) ?_
                show own_Goes p e below s (own_F0 Z x0 x1 x2 x3 x4 n0 h0) room_1.cells room_1.slots (T64.setTop (mkF m 180 #[.val (.int x0), .val (.int x1), .val (.int x2), .val (.int x3), .val (.int x4), .val (.int ((x0 &&& (2147483647 : Int32)) % (5 : Int32))), .val (.int (own_f1 x1)), .val (.int (own_f1 x2)), .val (.int (own_f1 x3)), .val (.int (own_f1 x4)), .val (.ref a5), .val (.int (own_f0_5 x0 x1 x2 x3 x4))] [(.int (1 : Int32))]))
                refine own_Goes.step (fun t k => XS.goto X64.here hx rfl (pc0 := 180) (pc' := 184) rfl (hb hby at_180) (by decide) (by decide) k) ?_
                show own_Goes p e below s (own_F0 Z x0 x1 x2 x3 x4 n0 h0) room_1.cells room_1.slots (T64.setTop (mkF m 184 #[.val (.int x0), .val (.int x1), .val (.int x2), .val (.int x3), .val (.int x4), .val (.int ((x0 &&& (2147483647 : Int32)) % (5 : Int32))), .val (.int (own_f1 x1)), .val (.int (own_f1 x2)), .val (.int (own_f1 x3)), .val (.int (own_f1 x4)), .val (.ref a5), .val (.int (own_f0_5 x0 x1 x2 x3 x4))] [(.int (1 : Int32))]))
                exact own_endN X64 hx Bd.notSynchronized (t := .boolean) Bd.returns (by simp) (hb hby at_184) ⟨(congrArg (fun z => some (Value.int z)) (show (1 : Int32) = own_f0 x0 x1 x2 x3 x4 from by simp only [own_f0, if_pos hc6, if_pos hc12, if_neg hc18, if_pos hc61, if_pos hc65])), N16⟩ (by decide) (by decide)
              · refine own_Goes.step (fun t k => XS.icmpYes X64.here hx rfl (pc0 := 176) (pc' := 183) rfl (hb hby at_176) rfl (XT.ii_ne_t hc65) (by decide) (by decide) k) ?_
                show own_Goes p e below s (own_F0 Z x0 x1 x2 x3 x4 n0 h0) room_1.cells room_1.slots (T64.setTop (mkF m 183 #[.val (.int x0), .val (.int x1), .val (.int x2), .val (.int x3), .val (.int x4), .val (.int ((x0 &&& (2147483647 : Int32)) % (5 : Int32))), .val (.int (own_f1 x1)), .val (.int (own_f1 x2)), .val (.int (own_f1 x3)), .val (.int (own_f1 x4)), .val (.ref a5), .val (.int (own_f0_5 x0 x1 x2 x3 x4))] []))
                refine own_Goes.step (fun t k => XT.iconstV X64.here hx rfl (0 : Int32) (hb hby at_183) (by decide) k) ?_
                show own_Goes p e below s (own_F0 Z x0 x1 x2 x3 x4 n0 h0) room_1.cells room_1.slots (T64.setTop (mkF m 184 #[.val (.int x0), .val (.int x1), .val (.int x2), .val (.int x3), .val (.int x4), .val (.int ((x0 &&& (2147483647 : Int32)) % (5 : Int32))), .val (.int (own_f1 x1)), .val (.int (own_f1 x2)), .val (.int (own_f1 x3)), .val (.int (own_f1 x4)), .val (.ref a5), .val (.int (own_f0_5 x0 x1 x2 x3 x4))] [(.int (0 : Int32))]))
                exact own_endN X64 hx Bd.notSynchronized (t := .boolean) Bd.returns (by simp) (hb hby at_184) ⟨(congrArg (fun z => some (Value.int z)) (show (0 : Int32) = own_f0 x0 x1 x2 x3 x4 from by simp only [own_f0, if_pos hc6, if_pos hc12, if_neg hc18, if_pos hc61, if_neg hc65])), N16⟩ (by decide) (by decide)
            by_cases hc63 : (own_f3 (own_f1 x1)) = (0 : Int32)
            · refine own_Goes.step (fun t k => XS.ifYes X62.here hx rfl (pc0 := 157) (pc' := 166) rfl (hb hby at_157) rfl (XT.i0_eq_t hc63) (by decide) (by decide) k) ?_
              show own_Goes p e below s (own_F0 Z x0 x1 x2 x3 x4 n0 h0) room_1.cells room_1.slots (T62.setTop (mkF m 166 #[.val (.int x0), .val (.int x1), .val (.int x2), .val (.int x3), .val (.int x4), .val (.int ((x0 &&& (2147483647 : Int32)) % (5 : Int32))), .val (.int (own_f1 x1)), .val (.int (own_f1 x2)), .val (.int (own_f1 x3)), .val (.int (own_f1 x4)), .val (.ref a5), .unset] []))
              refine own_Goes.step (fun t k => XT.iconstV X62.here hx rfl (0 : Int32) (hb hby at_166) (by decide) k) ?_
              show own_Goes p e below s (own_F0 Z x0 x1 x2 x3 x4 n0 h0) room_1.cells room_1.slots (T62.setTop (mkF m 167 #[.val (.int x0), .val (.int x1), .val (.int x2), .val (.int x3), .val (.int x4), .val (.int ((x0 &&& (2147483647 : Int32)) % (5 : Int32))), .val (.int (own_f1 x1)), .val (.int (own_f1 x2)), .val (.int (own_f1 x3)), .val (.int (own_f1 x4)), .val (.ref a5), .unset] [(.int (0 : Int32))]))
              refine own_Goes.step (fun t k => XS.istore X62.here hx rfl (hb hby at_167) rfl (l' := #[.val (.int x0), .val (.int x1), .val (.int x2), .val (.int x3), .val (.int x4), .val (.int ((x0 &&& (2147483647 : Int32)) % (5 : Int32))), .val (.int (own_f1 x1)), .val (.int (own_f1 x2)), .val (.int (own_f1 x3)), .val (.int (own_f1 x4)), .val (.ref a5), .val (.int (0 : Int32))]) rfl k) ?_
              show own_Goes p e below s (own_F0 Z x0 x1 x2 x3 x4 n0 h0) room_1.cells room_1.slots (T62.setTop (mkF m 169 #[.val (.int x0), .val (.int x1), .val (.int x2), .val (.int x3), .val (.int x4), .val (.int ((x0 &&& (2147483647 : Int32)) % (5 : Int32))), .val (.int (own_f1 x1)), .val (.int (own_f1 x2)), .val (.int (own_f1 x3)), .val (.int (own_f1 x4)), .val (.ref a5), .val (.int (0 : Int32))] []))
              rw [show (own_f0_5 x0 x1 x2 x3 x4) = (0 : Int32) from by simp only [own_f0_5, if_pos hc63]] at J66
              exact J66
            · refine own_Goes.step (fun t k => XS.ifNo X62.here hx rfl (hb hby at_157) rfl (XT.i0_eq_f hc63) k) ?_
              show own_Goes p e below s (own_F0 Z x0 x1 x2 x3 x4 n0 h0) room_1.cells room_1.slots (T62.setTop (mkF m 160 #[.val (.int x0), .val (.int x1), .val (.int x2), .val (.int x3), .val (.int x4), .val (.int ((x0 &&& (2147483647 : Int32)) % (5 : Int32))), .val (.int (own_f1 x1)), .val (.int (own_f1 x2)), .val (.int (own_f1 x3)), .val (.int (own_f1 x4)), .val (.ref a5), .unset] []))
              refine own_Goes.step (fun t k => XT.iconstV X62.here hx rfl (1 : Int32) (hb hby at_160) (by decide) k) ?_
              show own_Goes p e below s (own_F0 Z x0 x1 x2 x3 x4 n0 h0) room_1.cells room_1.slots (T62.setTop (mkF m 161 #[.val (.int x0), .val (.int x1), .val (.int x2), .val (.int x3), .val (.int x4), .val (.int ((x0 &&& (2147483647 : Int32)) % (5 : Int32))), .val (.int (own_f1 x1)), .val (.int (own_f1 x2)), .val (.int (own_f1 x3)), .val (.int (own_f1 x4)), .val (.ref a5), .unset] [(.int (1 : Int32))]))
              refine own_Goes.step (fun t k => XS.istore X62.here hx rfl (hb hby at_161) rfl (l' := #[.val (.int x0), .val (.int x1), .val (.int x2), .val (.int x3), .val (.int x4), .val (.int ((x0 &&& (2147483647 : Int32)) % (5 : Int32))), .val (.int (own_f1 x1)), .val (.int (own_f1 x2)), .val (.int (own_f1 x3)), .val (.int (own_f1 x4)), .val (.ref a5), .val (.int (1 : Int32))]) rfl k) ?_
              show own_Goes p e below s (own_F0 Z x0 x1 x2 x3 x4 n0 h0) room_1.cells room_1.slots (T62.setTop (mkF m 163 #[.val (.int x0), .val (.int x1), .val (.int x2), .val (.int x3), .val (.int x4), .val (.int ((x0 &&& (2147483647 : Int32)) % (5 : Int32))), .val (.int (own_f1 x1)), .val (.int (own_f1 x2)), .val (.int (own_f1 x3)), .val (.int (own_f1 x4)), .val (.ref a5), .val (.int (1 : Int32))] []))
              refine own_Goes.step (fun t k => XS.goto X62.here hx rfl (pc0 := 163) (pc' := 169) rfl (hb hby at_163) (by decide) (by decide) k) ?_
              show own_Goes p e below s (own_F0 Z x0 x1 x2 x3 x4 n0 h0) room_1.cells room_1.slots (T62.setTop (mkF m 169 #[.val (.int x0), .val (.int x1), .val (.int x2), .val (.int x3), .val (.int x4), .val (.int ((x0 &&& (2147483647 : Int32)) % (5 : Int32))), .val (.int (own_f1 x1)), .val (.int (own_f1 x2)), .val (.int (own_f1 x3)), .val (.int (own_f1 x4)), .val (.ref a5), .val (.int (1 : Int32))] []))
              rw [show (own_f0_5 x0 x1 x2 x3 x4) = (1 : Int32) from by simp only [own_f0_5, if_neg hc63]] at J66
              exact J66
          · refine own_Goes.step (fun t k => XS.ifNo X60.here hx rfl (hb hby at_137) rfl (XT.i0_eq_f hc61) k) ?_
            show own_Goes p e below s (own_F0 Z x0 x1 x2 x3 x4 n0 h0) room_1.cells room_1.slots (T60.setTop (mkF m 140 #[.val (.int x0), .val (.int x1), .val (.int x2), .val (.int x3), .val (.int x4), .val (.int ((x0 &&& (2147483647 : Int32)) % (5 : Int32))), .val (.int (own_f1 x1)), .val (.int (own_f1 x2)), .val (.int (own_f1 x3)), .val (.int (own_f1 x4)), .val (.ref a5), .unset] []))
            refine own_Goes.step (fun t k => XT.iconstV X60.here hx rfl (2 : Int32) (hb hby at_140) (by decide) k) ?_
            show own_Goes p e below s (own_F0 Z x0 x1 x2 x3 x4 n0 h0) room_1.cells room_1.slots (T60.setTop (mkF m 141 #[.val (.int x0), .val (.int x1), .val (.int x2), .val (.int x3), .val (.int x4), .val (.int ((x0 &&& (2147483647 : Int32)) % (5 : Int32))), .val (.int (own_f1 x1)), .val (.int (own_f1 x2)), .val (.int (own_f1 x3)), .val (.int (own_f1 x4)), .val (.ref a5), .unset] [(.int (2 : Int32))]))
            refine own_Goes.step (fun t k => XS.istore X60.here hx rfl (hb hby at_141) rfl (l' := #[.val (.int x0), .val (.int x1), .val (.int x2), .val (.int x3), .val (.int x4), .val (.int ((x0 &&& (2147483647 : Int32)) % (5 : Int32))), .val (.int (own_f1 x1)), .val (.int (own_f1 x2)), .val (.int (own_f1 x3)), .val (.int (own_f1 x4)), .val (.ref a5), .val (.int (2 : Int32))]) rfl k) ?_
            show own_Goes p e below s (own_F0 Z x0 x1 x2 x3 x4 n0 h0) room_1.cells room_1.slots (T60.setTop (mkF m 143 #[.val (.int x0), .val (.int x1), .val (.int x2), .val (.int x3), .val (.int x4), .val (.int ((x0 &&& (2147483647 : Int32)) % (5 : Int32))), .val (.int (own_f1 x1)), .val (.int (own_f1 x2)), .val (.int (own_f1 x3)), .val (.int (own_f1 x4)), .val (.ref a5), .val (.int (2 : Int32))] []))
            refine own_Goes.step (fun t k => XS.goto X60.here hx rfl (pc0 := 143) (pc' := 169) rfl (hb hby at_143) (by decide) (by decide) k) ?_
            show own_Goes p e below s (own_F0 Z x0 x1 x2 x3 x4 n0 h0) room_1.cells room_1.slots (T60.setTop (mkF m 169 #[.val (.int x0), .val (.int x1), .val (.int x2), .val (.int x3), .val (.int x4), .val (.int ((x0 &&& (2147483647 : Int32)) % (5 : Int32))), .val (.int (own_f1 x1)), .val (.int (own_f1 x2)), .val (.int (own_f1 x3)), .val (.int (own_f1 x4)), .val (.ref a5), .val (.int (2 : Int32))] []))
            refine own_Goes.step (fun t k => XS.aload X60.here hx rfl (hb hby at_169) rfl rfl k) ?_
            show own_Goes p e below s (own_F0 Z x0 x1 x2 x3 x4 n0 h0) room_1.cells room_1.slots (T60.setTop (mkF m 171 #[.val (.int x0), .val (.int x1), .val (.int x2), .val (.int x3), .val (.int x4), .val (.int ((x0 &&& (2147483647 : Int32)) % (5 : Int32))), .val (.int (own_f1 x1)), .val (.int (own_f1 x2)), .val (.int (own_f1 x3)), .val (.int (own_f1 x4)), .val (.ref a5), .val (.int (2 : Int32))] [(.ref a5)]))
            obtain ⟨w67, T67, L67, q67, Y67, st67⟩ := own_stat X60 hx hZ e60 hown (hw _ (List.mem_of_getElem? (i := 6) rfl)) (hw _ (List.mem_of_getElem? (i := 7) rfl)) (hw _ (List.mem_of_getElem? (i := 8) rfl)) (hw _ (List.mem_of_getElem? (i := 9) rfl)) (by decide) (own_m2 l Z a0 hw [] a5 (own_n x0) (own_f0_2 x0 x1 x2 x3 x4) n0 h13 f14 (Nat.lt_of_le_of_lt (own_n4 x0) (by decide))) (by decide) (W := 0) (by decide) (by decide) (by decide) (g := (mkF m 171 #[.val (.int x0), .val (.int x1), .val (.int x2), .val (.int x3), .val (.int x4), .val (.int ((x0 &&& (2147483647 : Int32)) % (5 : Int32))), .val (.int (own_f1 x1)), .val (.int (own_f1 x2)), .val (.int (own_f1 x3)), .val (.int (own_f1 x4)), .val (.ref a5), .val (.int (2 : Int32))] [(.ref a5)])) rfl (by rw [hml]; rfl) (argsL := [(.ref a5)]) (rest := []) (lenOf pd_2 rfl) rfl (by show 2 * 0 + _ ≤ _; exact Nat.le_of_eq rfl) (hb hby at_171)
            obtain ⟨e67, X67⟩ := own_clean q67 Y67 rfl rfl
            obtain ⟨rfl, -, -⟩ := q67
            refine own_Goes.step st67 ?_
            show own_Goes p e below s (own_F0 Z x0 x1 x2 x3 x4 n0 h0) room_1.cells room_1.slots (T67.setTop (mkF m 174 #[.val (.int x0), .val (.int x1), .val (.int x2), .val (.int x3), .val (.int x4), .val (.int ((x0 &&& (2147483647 : Int32)) % (5 : Int32))), .val (.int (own_f1 x1)), .val (.int (own_f1 x2)), .val (.int (own_f1 x3)), .val (.int (own_f1 x4)), .val (.ref a5), .val (.int (2 : Int32))] [(.int (own_nsl (own_f0_2 x0 x1 x2 x3 x4) (own_n x0)))]))
            refine own_Goes.step (fun t k => XS.iload X67.here hx rfl (hb hby at_174) rfl k) ?_
            show own_Goes p e below s (own_F0 Z x0 x1 x2 x3 x4 n0 h0) room_1.cells room_1.slots (T67.setTop (mkF m 176 #[.val (.int x0), .val (.int x1), .val (.int x2), .val (.int x3), .val (.int x4), .val (.int ((x0 &&& (2147483647 : Int32)) % (5 : Int32))), .val (.int (own_f1 x1)), .val (.int (own_f1 x2)), .val (.int (own_f1 x3)), .val (.int (own_f1 x4)), .val (.ref a5), .val (.int (2 : Int32))] [(.int (2 : Int32)), (.int (own_nsl (own_f0_2 x0 x1 x2 x3 x4) (own_n x0)))]))
            by_cases hc68 : (own_nsl (own_f0_2 x0 x1 x2 x3 x4) (own_n x0)) = (2 : Int32)
            · refine own_Goes.step (fun t k => XS.icmpNo X67.here hx rfl (hb hby at_176) rfl (XT.ii_ne_f hc68) k) ?_
              show own_Goes p e below s (own_F0 Z x0 x1 x2 x3 x4 n0 h0) room_1.cells room_1.slots (T67.setTop (mkF m 179 #[.val (.int x0), .val (.int x1), .val (.int x2), .val (.int x3), .val (.int x4), .val (.int ((x0 &&& (2147483647 : Int32)) % (5 : Int32))), .val (.int (own_f1 x1)), .val (.int (own_f1 x2)), .val (.int (own_f1 x3)), .val (.int (own_f1 x4)), .val (.ref a5), .val (.int (2 : Int32))] []))
              refine own_Goes.step (fun t k => XT.iconstV X67.here hx rfl (1 : Int32) (hb hby at_179) (by decide) k) ?_
              show own_Goes p e below s (own_F0 Z x0 x1 x2 x3 x4 n0 h0) room_1.cells room_1.slots (T67.setTop (mkF m 180 #[.val (.int x0), .val (.int x1), .val (.int x2), .val (.int x3), .val (.int x4), .val (.int ((x0 &&& (2147483647 : Int32)) % (5 : Int32))), .val (.int (own_f1 x1)), .val (.int (own_f1 x2)), .val (.int (own_f1 x3)), .val (.int (own_f1 x4)), .val (.ref a5), .val (.int (2 : Int32))] [(.int (1 : Int32))]))
              refine own_Goes.step (fun t k => XS.goto X67.here hx rfl (pc0 := 180) (pc' := 184) rfl (hb hby at_180) (by decide) (by decide) k) ?_
              show own_Goes p e below s (own_F0 Z x0 x1 x2 x3 x4 n0 h0) room_1.cells room_1.slots (T67.setTop (mkF m 184 #[.val (.int x0), .val (.int x1), .val (.int x2), .val (.int x3), .val (.int x4), .val (.int ((x0 &&& (2147483647 : Int32)) % (5 : Int32))), .val (.int (own_f1 x1)), .val (.int (own_f1 x2)), .val (.int (own_f1 x3)), .val (.int (own_f1 x4)), .val (.ref a5), .val (.int (2 : Int32))] [(.int (1 : Int32))]))
              exact own_endN X67 hx Bd.notSynchronized (t := .boolean) Bd.returns (by simp) (hb hby at_184) ⟨(congrArg (fun z => some (Value.int z)) (show (1 : Int32) = own_f0 x0 x1 x2 x3 x4 from by simp only [own_f0, if_pos hc6, if_pos hc12, if_neg hc18, if_neg hc61, if_pos hc68])), N16⟩ (by decide) (by decide)
            · refine own_Goes.step (fun t k => XS.icmpYes X67.here hx rfl (pc0 := 176) (pc' := 183) rfl (hb hby at_176) rfl (XT.ii_ne_t hc68) (by decide) (by decide) k) ?_
              show own_Goes p e below s (own_F0 Z x0 x1 x2 x3 x4 n0 h0) room_1.cells room_1.slots (T67.setTop (mkF m 183 #[.val (.int x0), .val (.int x1), .val (.int x2), .val (.int x3), .val (.int x4), .val (.int ((x0 &&& (2147483647 : Int32)) % (5 : Int32))), .val (.int (own_f1 x1)), .val (.int (own_f1 x2)), .val (.int (own_f1 x3)), .val (.int (own_f1 x4)), .val (.ref a5), .val (.int (2 : Int32))] []))
              refine own_Goes.step (fun t k => XT.iconstV X67.here hx rfl (0 : Int32) (hb hby at_183) (by decide) k) ?_
              show own_Goes p e below s (own_F0 Z x0 x1 x2 x3 x4 n0 h0) room_1.cells room_1.slots (T67.setTop (mkF m 184 #[.val (.int x0), .val (.int x1), .val (.int x2), .val (.int x3), .val (.int x4), .val (.int ((x0 &&& (2147483647 : Int32)) % (5 : Int32))), .val (.int (own_f1 x1)), .val (.int (own_f1 x2)), .val (.int (own_f1 x3)), .val (.int (own_f1 x4)), .val (.ref a5), .val (.int (2 : Int32))] [(.int (0 : Int32))]))
              exact own_endN X67 hx Bd.notSynchronized (t := .boolean) Bd.returns (by simp) (hb hby at_184) ⟨(congrArg (fun z => some (Value.int z)) (show (0 : Int32) = own_f0 x0 x1 x2 x3 x4 from by simp only [own_f0, if_pos hc6, if_pos hc12, if_neg hc18, if_neg hc61, if_neg hc68])), N16⟩ (by decide) (by decide)
      · refine own_Goes.step (fun t k => XS.icmpYes X7.here hx rfl (pc0 := 53) (pc' := 62) rfl (hb hby at_53) rfl (XT.ii_le_t hc12) (by decide) (by decide) k) ?_
        show own_Goes p e below s (own_F0 Z x0 x1 x2 x3 x4 n0 h0) room_1.cells room_1.slots (T7.setTop (mkF m 62 #[.val (.int x0), .val (.int x1), .val (.int x2), .val (.int x3), .val (.int x4), .val (.int ((x0 &&& (2147483647 : Int32)) % (5 : Int32))), .val (.int (own_f1 x1)), .val (.int (own_f1 x2)), .val (.int (own_f1 x3)), .val (.int (own_f1 x4)), .val (.ref a5), .unset] []))
        refine own_Goes.step (fun t k => XS.iload X7.here hx rfl (hb hby at_62) rfl k) ?_
        show own_Goes p e below s (own_F0 Z x0 x1 x2 x3 x4 n0 h0) room_1.cells room_1.slots (T7.setTop (mkF m 64 #[.val (.int x0), .val (.int x1), .val (.int x2), .val (.int x3), .val (.int x4), .val (.int ((x0 &&& (2147483647 : Int32)) % (5 : Int32))), .val (.int (own_f1 x1)), .val (.int (own_f1 x2)), .val (.int (own_f1 x3)), .val (.int (own_f1 x4)), .val (.ref a5), .unset] [(.int ((x0 &&& (2147483647 : Int32)) % (5 : Int32)))]))
        refine own_Goes.step (fun t k => XT.iconstV X7.here hx rfl (2 : Int32) (hb hby at_64) (by decide) k) ?_
        show own_Goes p e below s (own_F0 Z x0 x1 x2 x3 x4 n0 h0) room_1.cells room_1.slots (T7.setTop (mkF m 65 #[.val (.int x0), .val (.int x1), .val (.int x2), .val (.int x3), .val (.int x4), .val (.int ((x0 &&& (2147483647 : Int32)) % (5 : Int32))), .val (.int (own_f1 x1)), .val (.int (own_f1 x2)), .val (.int (own_f1 x3)), .val (.int (own_f1 x4)), .val (.ref a5), .unset] [(.int (2 : Int32)), (.int ((x0 &&& (2147483647 : Int32)) % (5 : Int32)))]))
        refine own_Goes.step (fun t k => XS.icmpYes X7.here hx rfl (pc0 := 65) (pc' := 74) rfl (hb hby at_65) rfl (XT.ii_le_t (own_nlt (by decide) hc12)) (by decide) (by decide) k) ?_
        show own_Goes p e below s (own_F0 Z x0 x1 x2 x3 x4 n0 h0) room_1.cells room_1.slots (T7.setTop (mkF m 74 #[.val (.int x0), .val (.int x1), .val (.int x2), .val (.int x3), .val (.int x4), .val (.int ((x0 &&& (2147483647 : Int32)) % (5 : Int32))), .val (.int (own_f1 x1)), .val (.int (own_f1 x2)), .val (.int (own_f1 x3)), .val (.int (own_f1 x4)), .val (.ref a5), .unset] []))
        refine own_Goes.step (fun t k => XS.iload X7.here hx rfl (hb hby at_74) rfl k) ?_
        show own_Goes p e below s (own_F0 Z x0 x1 x2 x3 x4 n0 h0) room_1.cells room_1.slots (T7.setTop (mkF m 76 #[.val (.int x0), .val (.int x1), .val (.int x2), .val (.int x3), .val (.int x4), .val (.int ((x0 &&& (2147483647 : Int32)) % (5 : Int32))), .val (.int (own_f1 x1)), .val (.int (own_f1 x2)), .val (.int (own_f1 x3)), .val (.int (own_f1 x4)), .val (.ref a5), .unset] [(.int ((x0 &&& (2147483647 : Int32)) % (5 : Int32)))]))
        refine own_Goes.step (fun t k => XT.iconstV X7.here hx rfl (3 : Int32) (hb hby at_76) (by decide) k) ?_
        show own_Goes p e below s (own_F0 Z x0 x1 x2 x3 x4 n0 h0) room_1.cells room_1.slots (T7.setTop (mkF m 77 #[.val (.int x0), .val (.int x1), .val (.int x2), .val (.int x3), .val (.int x4), .val (.int ((x0 &&& (2147483647 : Int32)) % (5 : Int32))), .val (.int (own_f1 x1)), .val (.int (own_f1 x2)), .val (.int (own_f1 x3)), .val (.int (own_f1 x4)), .val (.ref a5), .unset] [(.int (3 : Int32)), (.int ((x0 &&& (2147483647 : Int32)) % (5 : Int32)))]))
        refine own_Goes.step (fun t k => XS.icmpYes X7.here hx rfl (pc0 := 77) (pc' := 86) rfl (hb hby at_77) rfl (XT.ii_le_t (own_nlt (by decide) hc12)) (by decide) (by decide) k) ?_
        show own_Goes p e below s (own_F0 Z x0 x1 x2 x3 x4 n0 h0) room_1.cells room_1.slots (T7.setTop (mkF m 86 #[.val (.int x0), .val (.int x1), .val (.int x2), .val (.int x3), .val (.int x4), .val (.int ((x0 &&& (2147483647 : Int32)) % (5 : Int32))), .val (.int (own_f1 x1)), .val (.int (own_f1 x2)), .val (.int (own_f1 x3)), .val (.int (own_f1 x4)), .val (.ref a5), .unset] []))
        refine own_Goes.step (fun t k => XS.iload X7.here hx rfl (hb hby at_86) rfl k) ?_
        show own_Goes p e below s (own_F0 Z x0 x1 x2 x3 x4 n0 h0) room_1.cells room_1.slots (T7.setTop (mkF m 88 #[.val (.int x0), .val (.int x1), .val (.int x2), .val (.int x3), .val (.int x4), .val (.int ((x0 &&& (2147483647 : Int32)) % (5 : Int32))), .val (.int (own_f1 x1)), .val (.int (own_f1 x2)), .val (.int (own_f1 x3)), .val (.int (own_f1 x4)), .val (.ref a5), .unset] [(.int ((x0 &&& (2147483647 : Int32)) % (5 : Int32)))]))
        refine own_Goes.step (fun t k => XT.iconstV X7.here hx rfl (4 : Int32) (hb hby at_88) (by decide) k) ?_
        show own_Goes p e below s (own_F0 Z x0 x1 x2 x3 x4 n0 h0) room_1.cells room_1.slots (T7.setTop (mkF m 89 #[.val (.int x0), .val (.int x1), .val (.int x2), .val (.int x3), .val (.int x4), .val (.int ((x0 &&& (2147483647 : Int32)) % (5 : Int32))), .val (.int (own_f1 x1)), .val (.int (own_f1 x2)), .val (.int (own_f1 x3)), .val (.int (own_f1 x4)), .val (.ref a5), .unset] [(.int (4 : Int32)), (.int ((x0 &&& (2147483647 : Int32)) % (5 : Int32)))]))
        refine own_Goes.step (fun t k => XS.icmpYes X7.here hx rfl (pc0 := 89) (pc' := 106) rfl (hb hby at_89) rfl (XT.ii_lt_t (own_ltb (by decide) hc12)) (by decide) (by decide) k) ?_
        show own_Goes p e below s (own_F0 Z x0 x1 x2 x3 x4 n0 h0) room_1.cells room_1.slots (T7.setTop (mkF m 106 #[.val (.int x0), .val (.int x1), .val (.int x2), .val (.int x3), .val (.int x4), .val (.int ((x0 &&& (2147483647 : Int32)) % (5 : Int32))), .val (.int (own_f1 x1)), .val (.int (own_f1 x2)), .val (.int (own_f1 x3)), .val (.int (own_f1 x4)), .val (.ref a5), .unset] []))
        refine own_Goes.step (fun t k => XS.iload X7.here hx rfl (hb hby at_106) rfl k) ?_
        show own_Goes p e below s (own_F0 Z x0 x1 x2 x3 x4 n0 h0) room_1.cells room_1.slots (T7.setTop (mkF m 108 #[.val (.int x0), .val (.int x1), .val (.int x2), .val (.int x3), .val (.int x4), .val (.int ((x0 &&& (2147483647 : Int32)) % (5 : Int32))), .val (.int (own_f1 x1)), .val (.int (own_f1 x2)), .val (.int (own_f1 x3)), .val (.int (own_f1 x4)), .val (.ref a5), .unset] [(.int ((x0 &&& (2147483647 : Int32)) % (5 : Int32)))]))
        refine own_Goes.step (fun t k => XT.iconstV X7.here hx rfl (3 : Int32) (hb hby at_108) (by decide) k) ?_
        show own_Goes p e below s (own_F0 Z x0 x1 x2 x3 x4 n0 h0) room_1.cells room_1.slots (T7.setTop (mkF m 109 #[.val (.int x0), .val (.int x1), .val (.int x2), .val (.int x3), .val (.int x4), .val (.int ((x0 &&& (2147483647 : Int32)) % (5 : Int32))), .val (.int (own_f1 x1)), .val (.int (own_f1 x2)), .val (.int (own_f1 x3)), .val (.int (own_f1 x4)), .val (.ref a5), .unset] [(.int (3 : Int32)), (.int ((x0 &&& (2147483647 : Int32)) % (5 : Int32)))]))
        refine own_Goes.step (fun t k => XS.icmpYes X7.here hx rfl (pc0 := 109) (pc' := 126) rfl (hb hby at_109) rfl (XT.ii_lt_t (own_ltb (by decide) hc12)) (by decide) (by decide) k) ?_
        show own_Goes p e below s (own_F0 Z x0 x1 x2 x3 x4 n0 h0) room_1.cells room_1.slots (T7.setTop (mkF m 126 #[.val (.int x0), .val (.int x1), .val (.int x2), .val (.int x3), .val (.int x4), .val (.int ((x0 &&& (2147483647 : Int32)) % (5 : Int32))), .val (.int (own_f1 x1)), .val (.int (own_f1 x2)), .val (.int (own_f1 x3)), .val (.int (own_f1 x4)), .val (.ref a5), .unset] []))
        refine own_Goes.step (fun t k => XS.iload X7.here hx rfl (hb hby at_126) rfl k) ?_
        show own_Goes p e below s (own_F0 Z x0 x1 x2 x3 x4 n0 h0) room_1.cells room_1.slots (T7.setTop (mkF m 128 #[.val (.int x0), .val (.int x1), .val (.int x2), .val (.int x3), .val (.int x4), .val (.int ((x0 &&& (2147483647 : Int32)) % (5 : Int32))), .val (.int (own_f1 x1)), .val (.int (own_f1 x2)), .val (.int (own_f1 x3)), .val (.int (own_f1 x4)), .val (.ref a5), .unset] [(.int ((x0 &&& (2147483647 : Int32)) % (5 : Int32)))]))
        refine own_Goes.step (fun t k => XT.iconstV X7.here hx rfl (2 : Int32) (hb hby at_128) (by decide) k) ?_
        show own_Goes p e below s (own_F0 Z x0 x1 x2 x3 x4 n0 h0) room_1.cells room_1.slots (T7.setTop (mkF m 129 #[.val (.int x0), .val (.int x1), .val (.int x2), .val (.int x3), .val (.int x4), .val (.int ((x0 &&& (2147483647 : Int32)) % (5 : Int32))), .val (.int (own_f1 x1)), .val (.int (own_f1 x2)), .val (.int (own_f1 x3)), .val (.int (own_f1 x4)), .val (.ref a5), .unset] [(.int (2 : Int32)), (.int ((x0 &&& (2147483647 : Int32)) % (5 : Int32)))]))
        refine own_Goes.step (fun t k => XS.icmpYes X7.here hx rfl (pc0 := 129) (pc' := 146) rfl (hb hby at_129) rfl (XT.ii_lt_t (own_ltb (by decide) hc12)) (by decide) (by decide) k) ?_
        show own_Goes p e below s (own_F0 Z x0 x1 x2 x3 x4 n0 h0) room_1.cells room_1.slots (T7.setTop (mkF m 146 #[.val (.int x0), .val (.int x1), .val (.int x2), .val (.int x3), .val (.int x4), .val (.int ((x0 &&& (2147483647 : Int32)) % (5 : Int32))), .val (.int (own_f1 x1)), .val (.int (own_f1 x2)), .val (.int (own_f1 x3)), .val (.int (own_f1 x4)), .val (.ref a5), .unset] []))
        refine own_Goes.step (fun t k => XS.iload X7.here hx rfl (hb hby at_146) rfl k) ?_
        show own_Goes p e below s (own_F0 Z x0 x1 x2 x3 x4 n0 h0) room_1.cells room_1.slots (T7.setTop (mkF m 148 #[.val (.int x0), .val (.int x1), .val (.int x2), .val (.int x3), .val (.int x4), .val (.int ((x0 &&& (2147483647 : Int32)) % (5 : Int32))), .val (.int (own_f1 x1)), .val (.int (own_f1 x2)), .val (.int (own_f1 x3)), .val (.int (own_f1 x4)), .val (.ref a5), .unset] [(.int ((x0 &&& (2147483647 : Int32)) % (5 : Int32)))]))
        refine own_Goes.step (fun t k => XT.iconstV X7.here hx rfl (1 : Int32) (hb hby at_148) (by decide) k) ?_
        show own_Goes p e below s (own_F0 Z x0 x1 x2 x3 x4 n0 h0) room_1.cells room_1.slots (T7.setTop (mkF m 149 #[.val (.int x0), .val (.int x1), .val (.int x2), .val (.int x3), .val (.int x4), .val (.int ((x0 &&& (2147483647 : Int32)) % (5 : Int32))), .val (.int (own_f1 x1)), .val (.int (own_f1 x2)), .val (.int (own_f1 x3)), .val (.int (own_f1 x4)), .val (.ref a5), .unset] [(.int (1 : Int32)), (.int ((x0 &&& (2147483647 : Int32)) % (5 : Int32)))]))
        refine own_Goes.step (fun t k => XS.icmpNo X7.here hx rfl (hb hby at_149) rfl (XT.ii_lt_f (own_geb (by decide) hc6)) k) ?_
        show own_Goes p e below s (own_F0 Z x0 x1 x2 x3 x4 n0 h0) room_1.cells room_1.slots (T7.setTop (mkF m 152 #[.val (.int x0), .val (.int x1), .val (.int x2), .val (.int x3), .val (.int x4), .val (.int ((x0 &&& (2147483647 : Int32)) % (5 : Int32))), .val (.int (own_f1 x1)), .val (.int (own_f1 x2)), .val (.int (own_f1 x3)), .val (.int (own_f1 x4)), .val (.ref a5), .unset] []))
        refine own_Goes.step (fun t k => XS.iload X7.here hx rfl (hb hby at_152) rfl k) ?_
        show own_Goes p e below s (own_F0 Z x0 x1 x2 x3 x4 n0 h0) room_1.cells room_1.slots (T7.setTop (mkF m 154 #[.val (.int x0), .val (.int x1), .val (.int x2), .val (.int x3), .val (.int x4), .val (.int ((x0 &&& (2147483647 : Int32)) % (5 : Int32))), .val (.int (own_f1 x1)), .val (.int (own_f1 x2)), .val (.int (own_f1 x3)), .val (.int (own_f1 x4)), .val (.ref a5), .unset] [(.int (own_f1 x1))]))
        obtain ⟨w69, T69, L69, q69, Y69, st69⟩ := own_stat X7 hx hZ e7 hown (hw _ (List.mem_of_getElem? (i := 10) rfl)) (hw _ (List.mem_of_getElem? (i := 11) rfl)) (hw _ (List.mem_of_getElem? (i := 3) rfl)) (hw _ (List.mem_of_getElem? (i := 12) rfl)) (by decide) (own_m3 l Z a0 hw [] (own_f1 x1) h7 ) (by decide) (W := 0) (by decide) (by decide) (by decide) (g := (mkF m 154 #[.val (.int x0), .val (.int x1), .val (.int x2), .val (.int x3), .val (.int x4), .val (.int ((x0 &&& (2147483647 : Int32)) % (5 : Int32))), .val (.int (own_f1 x1)), .val (.int (own_f1 x2)), .val (.int (own_f1 x3)), .val (.int (own_f1 x4)), .val (.ref a5), .unset] [(.int (own_f1 x1))])) rfl (by rw [hml]; rfl) (argsL := [(.int (own_f1 x1))]) (rest := []) (lenOf pd_3 rfl) rfl (by show 2 * 0 + _ ≤ _; exact Nat.le_of_eq rfl) (hb hby at_154)
        obtain ⟨e69, X69⟩ := own_clean q69 Y69 rfl rfl
        obtain ⟨rfl, -, -⟩ := q69
        refine own_Goes.step st69 ?_
        show own_Goes p e below s (own_F0 Z x0 x1 x2 x3 x4 n0 h0) room_1.cells room_1.slots (T69.setTop (mkF m 157 #[.val (.int x0), .val (.int x1), .val (.int x2), .val (.int x3), .val (.int x4), .val (.int ((x0 &&& (2147483647 : Int32)) % (5 : Int32))), .val (.int (own_f1 x1)), .val (.int (own_f1 x2)), .val (.int (own_f1 x3)), .val (.int (own_f1 x4)), .val (.ref a5), .unset] [(.int (own_f3 (own_f1 x1)))]))
        have J73 : own_Goes p e below s (own_F0 Z x0 x1 x2 x3 x4 n0 h0) room_1.cells room_1.slots (T69.setTop (mkF m 169 #[.val (.int x0), .val (.int x1), .val (.int x2), .val (.int x3), .val (.int x4), .val (.int ((x0 &&& (2147483647 : Int32)) % (5 : Int32))), .val (.int (own_f1 x1)), .val (.int (own_f1 x2)), .val (.int (own_f1 x3)), .val (.int (own_f1 x4)), .val (.ref a5), .val (.int (own_f0_5 x0 x1 x2 x3 x4))] [])) := by
          refine own_Goes.step (fun t k => XS.aload X69.here hx rfl (hb hby at_169) rfl rfl k) ?_
          show own_Goes p e below s (own_F0 Z x0 x1 x2 x3 x4 n0 h0) room_1.cells room_1.slots (T69.setTop (mkF m 171 #[.val (.int x0), .val (.int x1), .val (.int x2), .val (.int x3), .val (.int x4), .val (.int ((x0 &&& (2147483647 : Int32)) % (5 : Int32))), .val (.int (own_f1 x1)), .val (.int (own_f1 x2)), .val (.int (own_f1 x3)), .val (.int (own_f1 x4)), .val (.ref a5), .val (.int (own_f0_5 x0 x1 x2 x3 x4))] [(.ref a5)]))
          obtain ⟨w71, T71, L71, q71, Y71, st71⟩ := own_stat X69 hx hZ e69 hown (hw _ (List.mem_of_getElem? (i := 6) rfl)) (hw _ (List.mem_of_getElem? (i := 7) rfl)) (hw _ (List.mem_of_getElem? (i := 8) rfl)) (hw _ (List.mem_of_getElem? (i := 9) rfl)) (by decide) (own_m2 l Z a0 hw [] a5 (own_n x0) (own_f0_1 x0 x1 x2 x3 x4) n0 h7 f8 (Nat.lt_of_le_of_lt (own_n4 x0) (by decide))) (by decide) (W := 0) (by decide) (by decide) (by decide) (g := (mkF m 171 #[.val (.int x0), .val (.int x1), .val (.int x2), .val (.int x3), .val (.int x4), .val (.int ((x0 &&& (2147483647 : Int32)) % (5 : Int32))), .val (.int (own_f1 x1)), .val (.int (own_f1 x2)), .val (.int (own_f1 x3)), .val (.int (own_f1 x4)), .val (.ref a5), .val (.int (own_f0_5 x0 x1 x2 x3 x4))] [(.ref a5)])) rfl (by rw [hml]; rfl) (argsL := [(.ref a5)]) (rest := []) (lenOf pd_2 rfl) rfl (by show 2 * 0 + _ ≤ _; exact Nat.le_of_eq rfl) (hb hby at_171)
          obtain ⟨e71, X71⟩ := own_clean q71 Y71 rfl rfl
          obtain ⟨rfl, -, -⟩ := q71
          refine own_Goes.step st71 ?_
          show own_Goes p e below s (own_F0 Z x0 x1 x2 x3 x4 n0 h0) room_1.cells room_1.slots (T71.setTop (mkF m 174 #[.val (.int x0), .val (.int x1), .val (.int x2), .val (.int x3), .val (.int x4), .val (.int ((x0 &&& (2147483647 : Int32)) % (5 : Int32))), .val (.int (own_f1 x1)), .val (.int (own_f1 x2)), .val (.int (own_f1 x3)), .val (.int (own_f1 x4)), .val (.ref a5), .val (.int (own_f0_5 x0 x1 x2 x3 x4))] [(.int (own_nsl (own_f0_1 x0 x1 x2 x3 x4) (own_n x0)))]))
          refine own_Goes.step (fun t k => XS.iload X71.here hx rfl (hb hby at_174) rfl k) ?_
          show own_Goes p e below s (own_F0 Z x0 x1 x2 x3 x4 n0 h0) room_1.cells room_1.slots (T71.setTop (mkF m 176 #[.val (.int x0), .val (.int x1), .val (.int x2), .val (.int x3), .val (.int x4), .val (.int ((x0 &&& (2147483647 : Int32)) % (5 : Int32))), .val (.int (own_f1 x1)), .val (.int (own_f1 x2)), .val (.int (own_f1 x3)), .val (.int (own_f1 x4)), .val (.ref a5), .val (.int (own_f0_5 x0 x1 x2 x3 x4))] [(.int (own_f0_5 x0 x1 x2 x3 x4)), (.int (own_nsl (own_f0_1 x0 x1 x2 x3 x4) (own_n x0)))]))
          by_cases hc72 : (own_nsl (own_f0_1 x0 x1 x2 x3 x4) (own_n x0)) = (own_f0_5 x0 x1 x2 x3 x4)
          · refine own_Goes.step (fun t k => XS.icmpNo X71.here hx rfl (hb hby at_176) rfl (XT.ii_ne_f hc72) k) ?_
            show own_Goes p e below s (own_F0 Z x0 x1 x2 x3 x4 n0 h0) room_1.cells room_1.slots (T71.setTop (mkF m 179 #[.val (.int x0), .val (.int x1), .val (.int x2), .val (.int x3), .val (.int x4), .val (.int ((x0 &&& (2147483647 : Int32)) % (5 : Int32))), .val (.int (own_f1 x1)), .val (.int (own_f1 x2)), .val (.int (own_f1 x3)), .val (.int (own_f1 x4)), .val (.ref a5), .val (.int (own_f0_5 x0 x1 x2 x3 x4))] []))
            refine own_Goes.step (fun t k => XT.iconstV X71.here hx rfl (1 : Int32) (hb hby at_179) (by decide) k) ?_
            show own_Goes p e below s (own_F0 Z x0 x1 x2 x3 x4 n0 h0) room_1.cells room_1.slots (T71.setTop (mkF m 180 #[.val (.int x0), .val (.int x1), .val (.int x2), .val (.int x3), .val (.int x4), .val (.int ((x0 &&& (2147483647 : Int32)) % (5 : Int32))), .val (.int (own_f1 x1)), .val (.int (own_f1 x2)), .val (.int (own_f1 x3)), .val (.int (own_f1 x4)), .val (.ref a5), .val (.int (own_f0_5 x0 x1 x2 x3 x4))] [(.int (1 : Int32))]))
            refine own_Goes.step (fun t k => XS.goto X71.here hx rfl (pc0 := 180) (pc' := 184) rfl (hb hby at_180) (by decide) (by decide) k) ?_
            show own_Goes p e below s (own_F0 Z x0 x1 x2 x3 x4 n0 h0) room_1.cells room_1.slots (T71.setTop (mkF m 184 #[.val (.int x0), .val (.int x1), .val (.int x2), .val (.int x3), .val (.int x4), .val (.int ((x0 &&& (2147483647 : Int32)) % (5 : Int32))), .val (.int (own_f1 x1)), .val (.int (own_f1 x2)), .val (.int (own_f1 x3)), .val (.int (own_f1 x4)), .val (.ref a5), .val (.int (own_f0_5 x0 x1 x2 x3 x4))] [(.int (1 : Int32))]))
            exact own_endN X71 hx Bd.notSynchronized (t := .boolean) Bd.returns (by simp) (hb hby at_184) ⟨(congrArg (fun z => some (Value.int z)) (show (1 : Int32) = own_f0 x0 x1 x2 x3 x4 from by simp only [own_f0, if_pos hc6, if_neg hc12, if_pos hc72])), N10⟩ (by decide) (by decide)
          · refine own_Goes.step (fun t k => XS.icmpYes X71.here hx rfl (pc0 := 176) (pc' := 183) rfl (hb hby at_176) rfl (XT.ii_ne_t hc72) (by decide) (by decide) k) ?_
            show own_Goes p e below s (own_F0 Z x0 x1 x2 x3 x4 n0 h0) room_1.cells room_1.slots (T71.setTop (mkF m 183 #[.val (.int x0), .val (.int x1), .val (.int x2), .val (.int x3), .val (.int x4), .val (.int ((x0 &&& (2147483647 : Int32)) % (5 : Int32))), .val (.int (own_f1 x1)), .val (.int (own_f1 x2)), .val (.int (own_f1 x3)), .val (.int (own_f1 x4)), .val (.ref a5), .val (.int (own_f0_5 x0 x1 x2 x3 x4))] []))
            refine own_Goes.step (fun t k => XT.iconstV X71.here hx rfl (0 : Int32) (hb hby at_183) (by decide) k) ?_
            show own_Goes p e below s (own_F0 Z x0 x1 x2 x3 x4 n0 h0) room_1.cells room_1.slots (T71.setTop (mkF m 184 #[.val (.int x0), .val (.int x1), .val (.int x2), .val (.int x3), .val (.int x4), .val (.int ((x0 &&& (2147483647 : Int32)) % (5 : Int32))), .val (.int (own_f1 x1)), .val (.int (own_f1 x2)), .val (.int (own_f1 x3)), .val (.int (own_f1 x4)), .val (.ref a5), .val (.int (own_f0_5 x0 x1 x2 x3 x4))] [(.int (0 : Int32))]))
            exact own_endN X71 hx Bd.notSynchronized (t := .boolean) Bd.returns (by simp) (hb hby at_184) ⟨(congrArg (fun z => some (Value.int z)) (show (0 : Int32) = own_f0 x0 x1 x2 x3 x4 from by simp only [own_f0, if_pos hc6, if_neg hc12, if_neg hc72])), N10⟩ (by decide) (by decide)
        by_cases hc70 : (own_f3 (own_f1 x1)) = (0 : Int32)
        · refine own_Goes.step (fun t k => XS.ifYes X69.here hx rfl (pc0 := 157) (pc' := 166) rfl (hb hby at_157) rfl (XT.i0_eq_t hc70) (by decide) (by decide) k) ?_
          show own_Goes p e below s (own_F0 Z x0 x1 x2 x3 x4 n0 h0) room_1.cells room_1.slots (T69.setTop (mkF m 166 #[.val (.int x0), .val (.int x1), .val (.int x2), .val (.int x3), .val (.int x4), .val (.int ((x0 &&& (2147483647 : Int32)) % (5 : Int32))), .val (.int (own_f1 x1)), .val (.int (own_f1 x2)), .val (.int (own_f1 x3)), .val (.int (own_f1 x4)), .val (.ref a5), .unset] []))
          refine own_Goes.step (fun t k => XT.iconstV X69.here hx rfl (0 : Int32) (hb hby at_166) (by decide) k) ?_
          show own_Goes p e below s (own_F0 Z x0 x1 x2 x3 x4 n0 h0) room_1.cells room_1.slots (T69.setTop (mkF m 167 #[.val (.int x0), .val (.int x1), .val (.int x2), .val (.int x3), .val (.int x4), .val (.int ((x0 &&& (2147483647 : Int32)) % (5 : Int32))), .val (.int (own_f1 x1)), .val (.int (own_f1 x2)), .val (.int (own_f1 x3)), .val (.int (own_f1 x4)), .val (.ref a5), .unset] [(.int (0 : Int32))]))
          refine own_Goes.step (fun t k => XS.istore X69.here hx rfl (hb hby at_167) rfl (l' := #[.val (.int x0), .val (.int x1), .val (.int x2), .val (.int x3), .val (.int x4), .val (.int ((x0 &&& (2147483647 : Int32)) % (5 : Int32))), .val (.int (own_f1 x1)), .val (.int (own_f1 x2)), .val (.int (own_f1 x3)), .val (.int (own_f1 x4)), .val (.ref a5), .val (.int (0 : Int32))]) rfl k) ?_
          show own_Goes p e below s (own_F0 Z x0 x1 x2 x3 x4 n0 h0) room_1.cells room_1.slots (T69.setTop (mkF m 169 #[.val (.int x0), .val (.int x1), .val (.int x2), .val (.int x3), .val (.int x4), .val (.int ((x0 &&& (2147483647 : Int32)) % (5 : Int32))), .val (.int (own_f1 x1)), .val (.int (own_f1 x2)), .val (.int (own_f1 x3)), .val (.int (own_f1 x4)), .val (.ref a5), .val (.int (0 : Int32))] []))
          rw [show (own_f0_5 x0 x1 x2 x3 x4) = (0 : Int32) from by simp only [own_f0_5, if_pos hc70]] at J73
          exact J73
        · refine own_Goes.step (fun t k => XS.ifNo X69.here hx rfl (hb hby at_157) rfl (XT.i0_eq_f hc70) k) ?_
          show own_Goes p e below s (own_F0 Z x0 x1 x2 x3 x4 n0 h0) room_1.cells room_1.slots (T69.setTop (mkF m 160 #[.val (.int x0), .val (.int x1), .val (.int x2), .val (.int x3), .val (.int x4), .val (.int ((x0 &&& (2147483647 : Int32)) % (5 : Int32))), .val (.int (own_f1 x1)), .val (.int (own_f1 x2)), .val (.int (own_f1 x3)), .val (.int (own_f1 x4)), .val (.ref a5), .unset] []))
          refine own_Goes.step (fun t k => XT.iconstV X69.here hx rfl (1 : Int32) (hb hby at_160) (by decide) k) ?_
          show own_Goes p e below s (own_F0 Z x0 x1 x2 x3 x4 n0 h0) room_1.cells room_1.slots (T69.setTop (mkF m 161 #[.val (.int x0), .val (.int x1), .val (.int x2), .val (.int x3), .val (.int x4), .val (.int ((x0 &&& (2147483647 : Int32)) % (5 : Int32))), .val (.int (own_f1 x1)), .val (.int (own_f1 x2)), .val (.int (own_f1 x3)), .val (.int (own_f1 x4)), .val (.ref a5), .unset] [(.int (1 : Int32))]))
          refine own_Goes.step (fun t k => XS.istore X69.here hx rfl (hb hby at_161) rfl (l' := #[.val (.int x0), .val (.int x1), .val (.int x2), .val (.int x3), .val (.int x4), .val (.int ((x0 &&& (2147483647 : Int32)) % (5 : Int32))), .val (.int (own_f1 x1)), .val (.int (own_f1 x2)), .val (.int (own_f1 x3)), .val (.int (own_f1 x4)), .val (.ref a5), .val (.int (1 : Int32))]) rfl k) ?_
          show own_Goes p e below s (own_F0 Z x0 x1 x2 x3 x4 n0 h0) room_1.cells room_1.slots (T69.setTop (mkF m 163 #[.val (.int x0), .val (.int x1), .val (.int x2), .val (.int x3), .val (.int x4), .val (.int ((x0 &&& (2147483647 : Int32)) % (5 : Int32))), .val (.int (own_f1 x1)), .val (.int (own_f1 x2)), .val (.int (own_f1 x3)), .val (.int (own_f1 x4)), .val (.ref a5), .val (.int (1 : Int32))] []))
          refine own_Goes.step (fun t k => XS.goto X69.here hx rfl (pc0 := 163) (pc' := 169) rfl (hb hby at_163) (by decide) (by decide) k) ?_
          show own_Goes p e below s (own_F0 Z x0 x1 x2 x3 x4 n0 h0) room_1.cells room_1.slots (T69.setTop (mkF m 169 #[.val (.int x0), .val (.int x1), .val (.int x2), .val (.int x3), .val (.int x4), .val (.int ((x0 &&& (2147483647 : Int32)) % (5 : Int32))), .val (.int (own_f1 x1)), .val (.int (own_f1 x2)), .val (.int (own_f1 x3)), .val (.int (own_f1 x4)), .val (.ref a5), .val (.int (1 : Int32))] []))
          rw [show (own_f0_5 x0 x1 x2 x3 x4) = (1 : Int32) from by simp only [own_f0_5, if_neg hc70]] at J73
          exact J73
    · refine own_Goes.step (fun t k => XS.ifYes X5.here hx rfl (pc0 := 41) (pc' := 50) rfl (hb hby at_41) rfl (XT.i0_le_t hc6) (by decide) (by decide) k) ?_
      show own_Goes p e below s (own_F0 Z x0 x1 x2 x3 x4 n0 h0) room_1.cells room_1.slots (T5.setTop (mkF m 50 #[.val (.int x0), .val (.int x1), .val (.int x2), .val (.int x3), .val (.int x4), .val (.int ((x0 &&& (2147483647 : Int32)) % (5 : Int32))), .val (.int (own_f1 x1)), .val (.int (own_f1 x2)), .val (.int (own_f1 x3)), .val (.int (own_f1 x4)), .val (.ref a5), .unset] []))
      refine own_Goes.step (fun t k => XS.iload X5.here hx rfl (hb hby at_50) rfl k) ?_
      show own_Goes p e below s (own_F0 Z x0 x1 x2 x3 x4 n0 h0) room_1.cells room_1.slots (T5.setTop (mkF m 52 #[.val (.int x0), .val (.int x1), .val (.int x2), .val (.int x3), .val (.int x4), .val (.int ((x0 &&& (2147483647 : Int32)) % (5 : Int32))), .val (.int (own_f1 x1)), .val (.int (own_f1 x2)), .val (.int (own_f1 x3)), .val (.int (own_f1 x4)), .val (.ref a5), .unset] [(.int ((x0 &&& (2147483647 : Int32)) % (5 : Int32)))]))
      refine own_Goes.step (fun t k => XT.iconstV X5.here hx rfl (1 : Int32) (hb hby at_52) (by decide) k) ?_
      show own_Goes p e below s (own_F0 Z x0 x1 x2 x3 x4 n0 h0) room_1.cells room_1.slots (T5.setTop (mkF m 53 #[.val (.int x0), .val (.int x1), .val (.int x2), .val (.int x3), .val (.int x4), .val (.int ((x0 &&& (2147483647 : Int32)) % (5 : Int32))), .val (.int (own_f1 x1)), .val (.int (own_f1 x2)), .val (.int (own_f1 x3)), .val (.int (own_f1 x4)), .val (.ref a5), .unset] [(.int (1 : Int32)), (.int ((x0 &&& (2147483647 : Int32)) % (5 : Int32)))]))
      refine own_Goes.step (fun t k => XS.icmpYes X5.here hx rfl (pc0 := 53) (pc' := 62) rfl (hb hby at_53) rfl (XT.ii_le_t (own_nlt (by decide) hc6)) (by decide) (by decide) k) ?_
      show own_Goes p e below s (own_F0 Z x0 x1 x2 x3 x4 n0 h0) room_1.cells room_1.slots (T5.setTop (mkF m 62 #[.val (.int x0), .val (.int x1), .val (.int x2), .val (.int x3), .val (.int x4), .val (.int ((x0 &&& (2147483647 : Int32)) % (5 : Int32))), .val (.int (own_f1 x1)), .val (.int (own_f1 x2)), .val (.int (own_f1 x3)), .val (.int (own_f1 x4)), .val (.ref a5), .unset] []))
      refine own_Goes.step (fun t k => XS.iload X5.here hx rfl (hb hby at_62) rfl k) ?_
      show own_Goes p e below s (own_F0 Z x0 x1 x2 x3 x4 n0 h0) room_1.cells room_1.slots (T5.setTop (mkF m 64 #[.val (.int x0), .val (.int x1), .val (.int x2), .val (.int x3), .val (.int x4), .val (.int ((x0 &&& (2147483647 : Int32)) % (5 : Int32))), .val (.int (own_f1 x1)), .val (.int (own_f1 x2)), .val (.int (own_f1 x3)), .val (.int (own_f1 x4)), .val (.ref a5), .unset] [(.int ((x0 &&& (2147483647 : Int32)) % (5 : Int32)))]))
      refine own_Goes.step (fun t k => XT.iconstV X5.here hx rfl (2 : Int32) (hb hby at_64) (by decide) k) ?_
      show own_Goes p e below s (own_F0 Z x0 x1 x2 x3 x4 n0 h0) room_1.cells room_1.slots (T5.setTop (mkF m 65 #[.val (.int x0), .val (.int x1), .val (.int x2), .val (.int x3), .val (.int x4), .val (.int ((x0 &&& (2147483647 : Int32)) % (5 : Int32))), .val (.int (own_f1 x1)), .val (.int (own_f1 x2)), .val (.int (own_f1 x3)), .val (.int (own_f1 x4)), .val (.ref a5), .unset] [(.int (2 : Int32)), (.int ((x0 &&& (2147483647 : Int32)) % (5 : Int32)))]))
      refine own_Goes.step (fun t k => XS.icmpYes X5.here hx rfl (pc0 := 65) (pc' := 74) rfl (hb hby at_65) rfl (XT.ii_le_t (own_nlt (by decide) hc6)) (by decide) (by decide) k) ?_
      show own_Goes p e below s (own_F0 Z x0 x1 x2 x3 x4 n0 h0) room_1.cells room_1.slots (T5.setTop (mkF m 74 #[.val (.int x0), .val (.int x1), .val (.int x2), .val (.int x3), .val (.int x4), .val (.int ((x0 &&& (2147483647 : Int32)) % (5 : Int32))), .val (.int (own_f1 x1)), .val (.int (own_f1 x2)), .val (.int (own_f1 x3)), .val (.int (own_f1 x4)), .val (.ref a5), .unset] []))
      refine own_Goes.step (fun t k => XS.iload X5.here hx rfl (hb hby at_74) rfl k) ?_
      show own_Goes p e below s (own_F0 Z x0 x1 x2 x3 x4 n0 h0) room_1.cells room_1.slots (T5.setTop (mkF m 76 #[.val (.int x0), .val (.int x1), .val (.int x2), .val (.int x3), .val (.int x4), .val (.int ((x0 &&& (2147483647 : Int32)) % (5 : Int32))), .val (.int (own_f1 x1)), .val (.int (own_f1 x2)), .val (.int (own_f1 x3)), .val (.int (own_f1 x4)), .val (.ref a5), .unset] [(.int ((x0 &&& (2147483647 : Int32)) % (5 : Int32)))]))
      refine own_Goes.step (fun t k => XT.iconstV X5.here hx rfl (3 : Int32) (hb hby at_76) (by decide) k) ?_
      show own_Goes p e below s (own_F0 Z x0 x1 x2 x3 x4 n0 h0) room_1.cells room_1.slots (T5.setTop (mkF m 77 #[.val (.int x0), .val (.int x1), .val (.int x2), .val (.int x3), .val (.int x4), .val (.int ((x0 &&& (2147483647 : Int32)) % (5 : Int32))), .val (.int (own_f1 x1)), .val (.int (own_f1 x2)), .val (.int (own_f1 x3)), .val (.int (own_f1 x4)), .val (.ref a5), .unset] [(.int (3 : Int32)), (.int ((x0 &&& (2147483647 : Int32)) % (5 : Int32)))]))
      refine own_Goes.step (fun t k => XS.icmpYes X5.here hx rfl (pc0 := 77) (pc' := 86) rfl (hb hby at_77) rfl (XT.ii_le_t (own_nlt (by decide) hc6)) (by decide) (by decide) k) ?_
      show own_Goes p e below s (own_F0 Z x0 x1 x2 x3 x4 n0 h0) room_1.cells room_1.slots (T5.setTop (mkF m 86 #[.val (.int x0), .val (.int x1), .val (.int x2), .val (.int x3), .val (.int x4), .val (.int ((x0 &&& (2147483647 : Int32)) % (5 : Int32))), .val (.int (own_f1 x1)), .val (.int (own_f1 x2)), .val (.int (own_f1 x3)), .val (.int (own_f1 x4)), .val (.ref a5), .unset] []))
      refine own_Goes.step (fun t k => XS.iload X5.here hx rfl (hb hby at_86) rfl k) ?_
      show own_Goes p e below s (own_F0 Z x0 x1 x2 x3 x4 n0 h0) room_1.cells room_1.slots (T5.setTop (mkF m 88 #[.val (.int x0), .val (.int x1), .val (.int x2), .val (.int x3), .val (.int x4), .val (.int ((x0 &&& (2147483647 : Int32)) % (5 : Int32))), .val (.int (own_f1 x1)), .val (.int (own_f1 x2)), .val (.int (own_f1 x3)), .val (.int (own_f1 x4)), .val (.ref a5), .unset] [(.int ((x0 &&& (2147483647 : Int32)) % (5 : Int32)))]))
      refine own_Goes.step (fun t k => XT.iconstV X5.here hx rfl (4 : Int32) (hb hby at_88) (by decide) k) ?_
      show own_Goes p e below s (own_F0 Z x0 x1 x2 x3 x4 n0 h0) room_1.cells room_1.slots (T5.setTop (mkF m 89 #[.val (.int x0), .val (.int x1), .val (.int x2), .val (.int x3), .val (.int x4), .val (.int ((x0 &&& (2147483647 : Int32)) % (5 : Int32))), .val (.int (own_f1 x1)), .val (.int (own_f1 x2)), .val (.int (own_f1 x3)), .val (.int (own_f1 x4)), .val (.ref a5), .unset] [(.int (4 : Int32)), (.int ((x0 &&& (2147483647 : Int32)) % (5 : Int32)))]))
      refine own_Goes.step (fun t k => XS.icmpYes X5.here hx rfl (pc0 := 89) (pc' := 106) rfl (hb hby at_89) rfl (XT.ii_lt_t (own_ltb (by decide) hc6)) (by decide) (by decide) k) ?_
      show own_Goes p e below s (own_F0 Z x0 x1 x2 x3 x4 n0 h0) room_1.cells room_1.slots (T5.setTop (mkF m 106 #[.val (.int x0), .val (.int x1), .val (.int x2), .val (.int x3), .val (.int x4), .val (.int ((x0 &&& (2147483647 : Int32)) % (5 : Int32))), .val (.int (own_f1 x1)), .val (.int (own_f1 x2)), .val (.int (own_f1 x3)), .val (.int (own_f1 x4)), .val (.ref a5), .unset] []))
      refine own_Goes.step (fun t k => XS.iload X5.here hx rfl (hb hby at_106) rfl k) ?_
      show own_Goes p e below s (own_F0 Z x0 x1 x2 x3 x4 n0 h0) room_1.cells room_1.slots (T5.setTop (mkF m 108 #[.val (.int x0), .val (.int x1), .val (.int x2), .val (.int x3), .val (.int x4), .val (.int ((x0 &&& (2147483647 : Int32)) % (5 : Int32))), .val (.int (own_f1 x1)), .val (.int (own_f1 x2)), .val (.int (own_f1 x3)), .val (.int (own_f1 x4)), .val (.ref a5), .unset] [(.int ((x0 &&& (2147483647 : Int32)) % (5 : Int32)))]))
      refine own_Goes.step (fun t k => XT.iconstV X5.here hx rfl (3 : Int32) (hb hby at_108) (by decide) k) ?_
      show own_Goes p e below s (own_F0 Z x0 x1 x2 x3 x4 n0 h0) room_1.cells room_1.slots (T5.setTop (mkF m 109 #[.val (.int x0), .val (.int x1), .val (.int x2), .val (.int x3), .val (.int x4), .val (.int ((x0 &&& (2147483647 : Int32)) % (5 : Int32))), .val (.int (own_f1 x1)), .val (.int (own_f1 x2)), .val (.int (own_f1 x3)), .val (.int (own_f1 x4)), .val (.ref a5), .unset] [(.int (3 : Int32)), (.int ((x0 &&& (2147483647 : Int32)) % (5 : Int32)))]))
      refine own_Goes.step (fun t k => XS.icmpYes X5.here hx rfl (pc0 := 109) (pc' := 126) rfl (hb hby at_109) rfl (XT.ii_lt_t (own_ltb (by decide) hc6)) (by decide) (by decide) k) ?_
      show own_Goes p e below s (own_F0 Z x0 x1 x2 x3 x4 n0 h0) room_1.cells room_1.slots (T5.setTop (mkF m 126 #[.val (.int x0), .val (.int x1), .val (.int x2), .val (.int x3), .val (.int x4), .val (.int ((x0 &&& (2147483647 : Int32)) % (5 : Int32))), .val (.int (own_f1 x1)), .val (.int (own_f1 x2)), .val (.int (own_f1 x3)), .val (.int (own_f1 x4)), .val (.ref a5), .unset] []))
      refine own_Goes.step (fun t k => XS.iload X5.here hx rfl (hb hby at_126) rfl k) ?_
      show own_Goes p e below s (own_F0 Z x0 x1 x2 x3 x4 n0 h0) room_1.cells room_1.slots (T5.setTop (mkF m 128 #[.val (.int x0), .val (.int x1), .val (.int x2), .val (.int x3), .val (.int x4), .val (.int ((x0 &&& (2147483647 : Int32)) % (5 : Int32))), .val (.int (own_f1 x1)), .val (.int (own_f1 x2)), .val (.int (own_f1 x3)), .val (.int (own_f1 x4)), .val (.ref a5), .unset] [(.int ((x0 &&& (2147483647 : Int32)) % (5 : Int32)))]))
      refine own_Goes.step (fun t k => XT.iconstV X5.here hx rfl (2 : Int32) (hb hby at_128) (by decide) k) ?_
      show own_Goes p e below s (own_F0 Z x0 x1 x2 x3 x4 n0 h0) room_1.cells room_1.slots (T5.setTop (mkF m 129 #[.val (.int x0), .val (.int x1), .val (.int x2), .val (.int x3), .val (.int x4), .val (.int ((x0 &&& (2147483647 : Int32)) % (5 : Int32))), .val (.int (own_f1 x1)), .val (.int (own_f1 x2)), .val (.int (own_f1 x3)), .val (.int (own_f1 x4)), .val (.ref a5), .unset] [(.int (2 : Int32)), (.int ((x0 &&& (2147483647 : Int32)) % (5 : Int32)))]))
      refine own_Goes.step (fun t k => XS.icmpYes X5.here hx rfl (pc0 := 129) (pc' := 146) rfl (hb hby at_129) rfl (XT.ii_lt_t (own_ltb (by decide) hc6)) (by decide) (by decide) k) ?_
      show own_Goes p e below s (own_F0 Z x0 x1 x2 x3 x4 n0 h0) room_1.cells room_1.slots (T5.setTop (mkF m 146 #[.val (.int x0), .val (.int x1), .val (.int x2), .val (.int x3), .val (.int x4), .val (.int ((x0 &&& (2147483647 : Int32)) % (5 : Int32))), .val (.int (own_f1 x1)), .val (.int (own_f1 x2)), .val (.int (own_f1 x3)), .val (.int (own_f1 x4)), .val (.ref a5), .unset] []))
      refine own_Goes.step (fun t k => XS.iload X5.here hx rfl (hb hby at_146) rfl k) ?_
      show own_Goes p e below s (own_F0 Z x0 x1 x2 x3 x4 n0 h0) room_1.cells room_1.slots (T5.setTop (mkF m 148 #[.val (.int x0), .val (.int x1), .val (.int x2), .val (.int x3), .val (.int x4), .val (.int ((x0 &&& (2147483647 : Int32)) % (5 : Int32))), .val (.int (own_f1 x1)), .val (.int (own_f1 x2)), .val (.int (own_f1 x3)), .val (.int (own_f1 x4)), .val (.ref a5), .unset] [(.int ((x0 &&& (2147483647 : Int32)) % (5 : Int32)))]))
      refine own_Goes.step (fun t k => XT.iconstV X5.here hx rfl (1 : Int32) (hb hby at_148) (by decide) k) ?_
      show own_Goes p e below s (own_F0 Z x0 x1 x2 x3 x4 n0 h0) room_1.cells room_1.slots (T5.setTop (mkF m 149 #[.val (.int x0), .val (.int x1), .val (.int x2), .val (.int x3), .val (.int x4), .val (.int ((x0 &&& (2147483647 : Int32)) % (5 : Int32))), .val (.int (own_f1 x1)), .val (.int (own_f1 x2)), .val (.int (own_f1 x3)), .val (.int (own_f1 x4)), .val (.ref a5), .unset] [(.int (1 : Int32)), (.int ((x0 &&& (2147483647 : Int32)) % (5 : Int32)))]))
      refine own_Goes.step (fun t k => XS.icmpYes X5.here hx rfl (pc0 := 149) (pc' := 166) rfl (hb hby at_149) rfl (XT.ii_lt_t (own_ltb (by decide) hc6)) (by decide) (by decide) k) ?_
      show own_Goes p e below s (own_F0 Z x0 x1 x2 x3 x4 n0 h0) room_1.cells room_1.slots (T5.setTop (mkF m 166 #[.val (.int x0), .val (.int x1), .val (.int x2), .val (.int x3), .val (.int x4), .val (.int ((x0 &&& (2147483647 : Int32)) % (5 : Int32))), .val (.int (own_f1 x1)), .val (.int (own_f1 x2)), .val (.int (own_f1 x3)), .val (.int (own_f1 x4)), .val (.ref a5), .unset] []))
      refine own_Goes.step (fun t k => XT.iconstV X5.here hx rfl (0 : Int32) (hb hby at_166) (by decide) k) ?_
      show own_Goes p e below s (own_F0 Z x0 x1 x2 x3 x4 n0 h0) room_1.cells room_1.slots (T5.setTop (mkF m 167 #[.val (.int x0), .val (.int x1), .val (.int x2), .val (.int x3), .val (.int x4), .val (.int ((x0 &&& (2147483647 : Int32)) % (5 : Int32))), .val (.int (own_f1 x1)), .val (.int (own_f1 x2)), .val (.int (own_f1 x3)), .val (.int (own_f1 x4)), .val (.ref a5), .unset] [(.int (0 : Int32))]))
      refine own_Goes.step (fun t k => XS.istore X5.here hx rfl (hb hby at_167) rfl (l' := #[.val (.int x0), .val (.int x1), .val (.int x2), .val (.int x3), .val (.int x4), .val (.int ((x0 &&& (2147483647 : Int32)) % (5 : Int32))), .val (.int (own_f1 x1)), .val (.int (own_f1 x2)), .val (.int (own_f1 x3)), .val (.int (own_f1 x4)), .val (.ref a5), .val (.int (0 : Int32))]) rfl k) ?_
      show own_Goes p e below s (own_F0 Z x0 x1 x2 x3 x4 n0 h0) room_1.cells room_1.slots (T5.setTop (mkF m 169 #[.val (.int x0), .val (.int x1), .val (.int x2), .val (.int x3), .val (.int x4), .val (.int ((x0 &&& (2147483647 : Int32)) % (5 : Int32))), .val (.int (own_f1 x1)), .val (.int (own_f1 x2)), .val (.int (own_f1 x3)), .val (.int (own_f1 x4)), .val (.ref a5), .val (.int (0 : Int32))] []))
      refine own_Goes.step (fun t k => XS.aload X5.here hx rfl (hb hby at_169) rfl rfl k) ?_
      show own_Goes p e below s (own_F0 Z x0 x1 x2 x3 x4 n0 h0) room_1.cells room_1.slots (T5.setTop (mkF m 171 #[.val (.int x0), .val (.int x1), .val (.int x2), .val (.int x3), .val (.int x4), .val (.int ((x0 &&& (2147483647 : Int32)) % (5 : Int32))), .val (.int (own_f1 x1)), .val (.int (own_f1 x2)), .val (.int (own_f1 x3)), .val (.int (own_f1 x4)), .val (.ref a5), .val (.int (0 : Int32))] [(.ref a5)]))
      obtain ⟨w74, T74, L74, q74, Y74, st74⟩ := own_stat X5 hx hZ e5 hown (hw _ (List.mem_of_getElem? (i := 6) rfl)) (hw _ (List.mem_of_getElem? (i := 7) rfl)) (hw _ (List.mem_of_getElem? (i := 8) rfl)) (hw _ (List.mem_of_getElem? (i := 9) rfl)) (by decide) (own_m2 l Z a0 hw [] a5 (own_n x0) (fun _ => (0 : Int32)) n0 h5 r5 (Nat.lt_of_le_of_lt (own_n4 x0) (by decide))) (by decide) (W := 0) (by decide) (by decide) (by decide) (g := (mkF m 171 #[.val (.int x0), .val (.int x1), .val (.int x2), .val (.int x3), .val (.int x4), .val (.int ((x0 &&& (2147483647 : Int32)) % (5 : Int32))), .val (.int (own_f1 x1)), .val (.int (own_f1 x2)), .val (.int (own_f1 x3)), .val (.int (own_f1 x4)), .val (.ref a5), .val (.int (0 : Int32))] [(.ref a5)])) rfl (by rw [hml]; rfl) (argsL := [(.ref a5)]) (rest := []) (lenOf pd_2 rfl) rfl (by show 2 * 0 + _ ≤ _; exact Nat.le_of_eq rfl) (hb hby at_171)
      obtain ⟨e74, X74⟩ := own_clean q74 Y74 rfl rfl
      obtain ⟨rfl, -, -⟩ := q74
      refine own_Goes.step st74 ?_
      show own_Goes p e below s (own_F0 Z x0 x1 x2 x3 x4 n0 h0) room_1.cells room_1.slots (T74.setTop (mkF m 174 #[.val (.int x0), .val (.int x1), .val (.int x2), .val (.int x3), .val (.int x4), .val (.int ((x0 &&& (2147483647 : Int32)) % (5 : Int32))), .val (.int (own_f1 x1)), .val (.int (own_f1 x2)), .val (.int (own_f1 x3)), .val (.int (own_f1 x4)), .val (.ref a5), .val (.int (0 : Int32))] [(.int (own_nsl (fun _ => (0 : Int32)) (own_n x0)))]))
      refine own_Goes.step (fun t k => XS.iload X74.here hx rfl (hb hby at_174) rfl k) ?_
      show own_Goes p e below s (own_F0 Z x0 x1 x2 x3 x4 n0 h0) room_1.cells room_1.slots (T74.setTop (mkF m 176 #[.val (.int x0), .val (.int x1), .val (.int x2), .val (.int x3), .val (.int x4), .val (.int ((x0 &&& (2147483647 : Int32)) % (5 : Int32))), .val (.int (own_f1 x1)), .val (.int (own_f1 x2)), .val (.int (own_f1 x3)), .val (.int (own_f1 x4)), .val (.ref a5), .val (.int (0 : Int32))] [(.int (0 : Int32)), (.int (own_nsl (fun _ => (0 : Int32)) (own_n x0)))]))
      by_cases hc75 : (own_nsl (fun _ => (0 : Int32)) (own_n x0)) = (0 : Int32)
      · refine own_Goes.step (fun t k => XS.icmpNo X74.here hx rfl (hb hby at_176) rfl (XT.ii_ne_f hc75) k) ?_
        show own_Goes p e below s (own_F0 Z x0 x1 x2 x3 x4 n0 h0) room_1.cells room_1.slots (T74.setTop (mkF m 179 #[.val (.int x0), .val (.int x1), .val (.int x2), .val (.int x3), .val (.int x4), .val (.int ((x0 &&& (2147483647 : Int32)) % (5 : Int32))), .val (.int (own_f1 x1)), .val (.int (own_f1 x2)), .val (.int (own_f1 x3)), .val (.int (own_f1 x4)), .val (.ref a5), .val (.int (0 : Int32))] []))
        refine own_Goes.step (fun t k => XT.iconstV X74.here hx rfl (1 : Int32) (hb hby at_179) (by decide) k) ?_
        show own_Goes p e below s (own_F0 Z x0 x1 x2 x3 x4 n0 h0) room_1.cells room_1.slots (T74.setTop (mkF m 180 #[.val (.int x0), .val (.int x1), .val (.int x2), .val (.int x3), .val (.int x4), .val (.int ((x0 &&& (2147483647 : Int32)) % (5 : Int32))), .val (.int (own_f1 x1)), .val (.int (own_f1 x2)), .val (.int (own_f1 x3)), .val (.int (own_f1 x4)), .val (.ref a5), .val (.int (0 : Int32))] [(.int (1 : Int32))]))
        refine own_Goes.step (fun t k => XS.goto X74.here hx rfl (pc0 := 180) (pc' := 184) rfl (hb hby at_180) (by decide) (by decide) k) ?_
        show own_Goes p e below s (own_F0 Z x0 x1 x2 x3 x4 n0 h0) room_1.cells room_1.slots (T74.setTop (mkF m 184 #[.val (.int x0), .val (.int x1), .val (.int x2), .val (.int x3), .val (.int x4), .val (.int ((x0 &&& (2147483647 : Int32)) % (5 : Int32))), .val (.int (own_f1 x1)), .val (.int (own_f1 x2)), .val (.int (own_f1 x3)), .val (.int (own_f1 x4)), .val (.ref a5), .val (.int (0 : Int32))] [(.int (1 : Int32))]))
        exact own_endN X74 hx Bd.notSynchronized (t := .boolean) Bd.returns (by simp) (hb hby at_184) ⟨(congrArg (fun z => some (Value.int z)) (show (1 : Int32) = own_f0 x0 x1 x2 x3 x4 from by simp only [own_f0, if_neg hc6, if_pos hc75])), N0⟩ (by decide) (by decide)
      · refine own_Goes.step (fun t k => XS.icmpYes X74.here hx rfl (pc0 := 176) (pc' := 183) rfl (hb hby at_176) rfl (XT.ii_ne_t hc75) (by decide) (by decide) k) ?_
        show own_Goes p e below s (own_F0 Z x0 x1 x2 x3 x4 n0 h0) room_1.cells room_1.slots (T74.setTop (mkF m 183 #[.val (.int x0), .val (.int x1), .val (.int x2), .val (.int x3), .val (.int x4), .val (.int ((x0 &&& (2147483647 : Int32)) % (5 : Int32))), .val (.int (own_f1 x1)), .val (.int (own_f1 x2)), .val (.int (own_f1 x3)), .val (.int (own_f1 x4)), .val (.ref a5), .val (.int (0 : Int32))] []))
        refine own_Goes.step (fun t k => XT.iconstV X74.here hx rfl (0 : Int32) (hb hby at_183) (by decide) k) ?_
        show own_Goes p e below s (own_F0 Z x0 x1 x2 x3 x4 n0 h0) room_1.cells room_1.slots (T74.setTop (mkF m 184 #[.val (.int x0), .val (.int x1), .val (.int x2), .val (.int x3), .val (.int x4), .val (.int ((x0 &&& (2147483647 : Int32)) % (5 : Int32))), .val (.int (own_f1 x1)), .val (.int (own_f1 x2)), .val (.int (own_f1 x3)), .val (.int (own_f1 x4)), .val (.ref a5), .val (.int (0 : Int32))] [(.int (0 : Int32))]))
        exact own_endN X74 hx Bd.notSynchronized (t := .boolean) Bd.returns (by simp) (hb hby at_184) ⟨(congrArg (fun z => some (Value.int z)) (show (0 : Int32) = own_f0 x0 x1 x2 x3 x4 from by simp only [own_f0, if_neg hc6, if_neg hc75])), N0⟩ (by decide) (by decide)
  obtain ⟨t2, o2, q1, q2, q3, q4⟩ := hgo
  exact ⟨t2, o2, castTop (ef_0 m x0 x1 x2 x3 x4) q1, q2, q3, q4⟩
theorem own_nb1 (x : Int32) : nar .byte (own_f1 x) = own_f1 x := by
  unfold own_f1
  split
  · decide
  · split
    · decide
    · split
      · decide
      · show ((x >>> ((2 : Int32) &&& 31)).toInt8.toInt32.toInt8.toInt32).toInt8.toInt32 = (x >>> ((2 : Int32) &&& 31)).toInt8.toInt32.toInt8.toInt32
        simp
theorem own_nsl_sep (f : Nat → Int32) (k : Nat) : own_nsl f (k + 1) = if own_f3 (f k) = (0 : Int32) then own_nsl f k else Int32.ofNat (k + 1) := by
  rw [own_nsl_succ]
  unfold own_f3
  have n1 : ¬ (1 : Int32) = 0 := by decide
  by_cases a : f k = (47 : Int32)
  · simp only [if_pos a, if_neg n1]
  · by_cases b : f k = (35 : Int32)
    · simp only [if_neg a, if_pos b, if_neg n1]
    · by_cases c : f k = (58 : Int32)
      · simp only [if_neg a, if_neg b, if_pos c, if_neg n1]
      · simp only [if_neg a, if_neg b, if_neg c, if_true]
theorem own_v1_0 (x0 x1 x2 x3 x4 : Int32) : own_f0_1 x0 x1 x2 x3 x4 0 = own_f1 x1 := by
  unfold own_f0_1
  simp only [own_nb1, if_true]
theorem own_v2_0 (x0 x1 x2 x3 x4 : Int32) : own_f0_2 x0 x1 x2 x3 x4 0 = own_f1 x1 := by
  unfold own_f0_2 own_f0_1
  simp only [own_nb1, if_true, show ¬ ((0 : Nat) = 1) from by decide, if_false]
theorem own_v2_1 (x0 x1 x2 x3 x4 : Int32) : own_f0_2 x0 x1 x2 x3 x4 1 = own_f1 x2 := by
  unfold own_f0_2
  simp only [own_nb1, if_true]
theorem own_v3_0 (x0 x1 x2 x3 x4 : Int32) : own_f0_3 x0 x1 x2 x3 x4 0 = own_f1 x1 := by
  unfold own_f0_3 own_f0_2 own_f0_1
  simp only [own_nb1, if_true, show ¬ ((0 : Nat) = 1) from by decide, show ¬ ((0 : Nat) = 2) from by decide, if_false]
theorem own_v3_1 (x0 x1 x2 x3 x4 : Int32) : own_f0_3 x0 x1 x2 x3 x4 1 = own_f1 x2 := by
  unfold own_f0_3 own_f0_2
  simp only [own_nb1, if_true, show ¬ ((1 : Nat) = 2) from by decide, if_false]
theorem own_v3_2 (x0 x1 x2 x3 x4 : Int32) : own_f0_3 x0 x1 x2 x3 x4 2 = own_f1 x3 := by
  unfold own_f0_3
  simp only [own_nb1, if_true]
theorem own_v4_0 (x0 x1 x2 x3 x4 : Int32) : own_f0_4 x0 x1 x2 x3 x4 0 = own_f1 x1 := by
  unfold own_f0_4 own_f0_3 own_f0_2 own_f0_1
  simp only [own_nb1, if_true, show ¬ ((0 : Nat) = 1) from by decide, show ¬ ((0 : Nat) = 2) from by decide, show ¬ ((0 : Nat) = 3) from by decide, if_false]
theorem own_v4_1 (x0 x1 x2 x3 x4 : Int32) : own_f0_4 x0 x1 x2 x3 x4 1 = own_f1 x2 := by
  unfold own_f0_4 own_f0_3 own_f0_2
  simp only [own_nb1, if_true, show ¬ ((1 : Nat) = 2) from by decide, show ¬ ((1 : Nat) = 3) from by decide, if_false]
theorem own_v4_2 (x0 x1 x2 x3 x4 : Int32) : own_f0_4 x0 x1 x2 x3 x4 2 = own_f1 x3 := by
  unfold own_f0_4 own_f0_3
  simp only [own_nb1, if_true, show ¬ ((2 : Nat) = 3) from by decide, if_false]
theorem own_v4_3 (x0 x1 x2 x3 x4 : Int32) : own_f0_4 x0 x1 x2 x3 x4 3 = own_f1 x4 := by
  unfold own_f0_4
  simp only [own_nb1, if_true]
theorem own_law (x0 x1 x2 x3 x4 : Int32) : own_f0 x0 x1 x2 x3 x4 = 1 := by
  have hb := own_nb x0
  have he := own_ne x0
  have n1 : ¬ (1 : Int32) = 0 := by decide
  have k0 : (0 : Int32).toInt = 0 := rfl
  have k1 : (1 : Int32).toInt = 1 := rfl
  have k2 : (2 : Int32).toInt = 2 := rfl
  have k3 : (3 : Int32).toInt = 3 := rfl
  by_cases h0 : (0 : Int32) < ((x0 &&& (2147483647 : Int32)) % (5 : Int32))
  · skip
    by_cases h1 : (1 : Int32) < ((x0 &&& (2147483647 : Int32)) % (5 : Int32))
    · skip
      by_cases h2 : (2 : Int32) < ((x0 &&& (2147483647 : Int32)) % (5 : Int32))
      · skip
        by_cases h3 : (3 : Int32) < ((x0 &&& (2147483647 : Int32)) % (5 : Int32))
        · skip
          have g3 := h3
          rw [own_lt32, k3] at g3
          have hN : own_n x0 = 4 := by omega
          by_cases s0 : own_f3 (own_f1 x1) = (0 : Int32) <;> by_cases s1 : own_f3 (own_f1 x2) = (0 : Int32) <;> by_cases s2 : own_f3 (own_f1 x3) = (0 : Int32) <;> by_cases s3 : own_f3 (own_f1 x4) = (0 : Int32) <;> simp only [own_f0, own_f0_5, hN, if_pos h0, if_pos h1, if_pos h2, if_pos h3, if_neg n1, show ∀ f, own_nsl f 1 = if own_f3 (f 0) = (0 : Int32) then own_nsl f 0 else Int32.ofNat 1 from fun f => own_nsl_sep f 0, show ∀ f, own_nsl f 2 = if own_f3 (f 1) = (0 : Int32) then own_nsl f 1 else Int32.ofNat 2 from fun f => own_nsl_sep f 1, show ∀ f, own_nsl f 3 = if own_f3 (f 2) = (0 : Int32) then own_nsl f 2 else Int32.ofNat 3 from fun f => own_nsl_sep f 2, show ∀ f, own_nsl f 4 = if own_f3 (f 3) = (0 : Int32) then own_nsl f 3 else Int32.ofNat 4 from fun f => own_nsl_sep f 3, own_v4_0, own_v4_1, own_v4_2, own_v4_3, s0, s1, s2, s3, if_true, if_false] <;> rfl
        · skip
          have h3' := h3
          rw [own_lt32, k3] at h3'
          have g2 := h2
          rw [own_lt32, k2] at g2
          have hN : own_n x0 = 3 := by omega
          by_cases s0 : own_f3 (own_f1 x1) = (0 : Int32) <;> by_cases s1 : own_f3 (own_f1 x2) = (0 : Int32) <;> by_cases s2 : own_f3 (own_f1 x3) = (0 : Int32) <;> simp only [own_f0, own_f0_5, hN, if_pos h0, if_pos h1, if_pos h2, if_neg h3, if_neg n1, show ∀ f, own_nsl f 1 = if own_f3 (f 0) = (0 : Int32) then own_nsl f 0 else Int32.ofNat 1 from fun f => own_nsl_sep f 0, show ∀ f, own_nsl f 2 = if own_f3 (f 1) = (0 : Int32) then own_nsl f 1 else Int32.ofNat 2 from fun f => own_nsl_sep f 1, show ∀ f, own_nsl f 3 = if own_f3 (f 2) = (0 : Int32) then own_nsl f 2 else Int32.ofNat 3 from fun f => own_nsl_sep f 2, own_v3_0, own_v3_1, own_v3_2, s0, s1, s2, if_true, if_false] <;> rfl
      · skip
        have h2' := h2
        rw [own_lt32, k2] at h2'
        have g1 := h1
        rw [own_lt32, k1] at g1
        have hN : own_n x0 = 2 := by omega
        by_cases s0 : own_f3 (own_f1 x1) = (0 : Int32) <;> by_cases s1 : own_f3 (own_f1 x2) = (0 : Int32) <;> simp only [own_f0, own_f0_5, hN, if_pos h0, if_pos h1, if_neg h2, if_neg n1, show ∀ f, own_nsl f 1 = if own_f3 (f 0) = (0 : Int32) then own_nsl f 0 else Int32.ofNat 1 from fun f => own_nsl_sep f 0, show ∀ f, own_nsl f 2 = if own_f3 (f 1) = (0 : Int32) then own_nsl f 1 else Int32.ofNat 2 from fun f => own_nsl_sep f 1, own_v2_0, own_v2_1, s0, s1, if_true, if_false] <;> rfl
    · skip
      have h1' := h1
      rw [own_lt32, k1] at h1'
      have g0 := h0
      rw [own_lt32, k0] at g0
      have hN : own_n x0 = 1 := by omega
      by_cases s0 : own_f3 (own_f1 x1) = (0 : Int32) <;> simp only [own_f0, own_f0_5, hN, if_pos h0, if_neg h1, if_neg n1, show ∀ f, own_nsl f 1 = if own_f3 (f 0) = (0 : Int32) then own_nsl f 0 else Int32.ofNat 1 from fun f => own_nsl_sep f 0, own_v1_0, s0, if_true, if_false] <;> rfl
  · skip
    have h0' := h0
    rw [own_lt32, k0] at h0'
    have hN : own_n x0 = 0 := by omega
    simp only [own_f0, own_f0_5, hN, if_neg h0, if_neg n1]
    rfl
set_option maxRecDepth 65536 in
set_option maxHeartbeats 40000000 in
theorem comes_1 {Post : Tables → Env → Array Value → State → Outcome → State → Prop} (hpost : ∀ tb e args s v u, (limb_1_1.after args s (.returned v) u = true ∧ limb_1_2.after args s (.returned v) u = true ∧ True) → FrameEnd s (.returned v) u (Jvm.fieldLocs frame_1_writes args s ++ Jvm.arrayLocs frame_1_arrays args s ++ Jvm.staticLocs frame_1_statics s) 16 128 → Post tb e args s (.returned v) u) :
    ArmFor flags0 classFile x code maxLocals ret World_1 tables_1 room_1 Calls_1 rest_1 Pre_1 Post := by
  intro l hfl _ _ p e ha hc hk s m args below hf hA hF happ hP
  obtain ⟨hcalls, hrest, hpre⟩ := hP
  obtain ⟨-, -, -, hnamed, -, -, -, hat⟩ := (Spec.applies_iff hf).mp happ
  obtain ⟨hg, hn⟩ := and_e (Cond.before_iff.mp (show (Jvm.Cond.and given_1 narrow_1).before args s = true from hpre))
  obtain ⟨hcount, hr0⟩ := and_e hg
  obtain ⟨w0, w1, w2, w3, w4, rfl⟩ : ∃ w0 w1 w2 w3 w4 : Value, args = #[w0, w1, w2, w3, w4] := by
    have hs : args.size = 5 := by simpa [Cond.value, given_1] using hcount
    obtain ⟨L⟩ := args
    match L, hs with
    | [w0, w1, w2, w3, w4], _ => exact ⟨w0, w1, w2, w3, w4, rfl⟩
  have hw := fun d (hd : d ∈ tables_1) => atoms_spec (ws := Jvm.Cond.code x code maxLocals ret :: tables_1) hat d (List.mem_cons_of_mem _ hd)
  obtain ⟨ha0, hr1⟩ := and_e hr0
  obtain ⟨i0, ev0⟩ := is_v ha0
  obtain rfl : w0 = (.int i0) := Option.some.inj ev0
  obtain ⟨ha1, hr2⟩ := and_e hr1
  obtain ⟨i1, ev1⟩ := is_v ha1
  obtain rfl : w1 = (.int i1) := Option.some.inj ev1
  obtain ⟨ha2, hr3⟩ := and_e hr2
  obtain ⟨i2, ev2⟩ := is_v ha2
  obtain rfl : w2 = (.int i2) := Option.some.inj ev2
  obtain ⟨ha3, hr4⟩ := and_e hr3
  obtain ⟨i3, ev3⟩ := is_v ha3
  obtain rfl : w3 = (.int i3) := Option.some.inj ev3
  obtain ⟨i4, ev4⟩ := is_v hr4
  obtain rfl : w4 = (.int i4) := Option.some.inj ev4
  obtain ⟨n, o, h1, h2, h3, _, L, rfl, ⟨rfl, N⟩, hq⟩ := own_m0 l s _ hw tables_1 i0 i1 i2 i3 i4 s.heap.size s.heap (Nat.le_refl _) p e ha hc hk s m _ below hf ((Spec.applies_iff_loose hf).mp happ).1 ⟨rfl, State.Warmed39.refl s, rfl⟩ trivial
  rw [own_law i0 i1 i2 i3 i4] at h3 hq
  refine ⟨n, _, h1, h2, h3, hpost _ _ _ _ _ _ ⟨Cond.after_iff.mpr rfl, Cond.after_iff.mpr (eq_i res_at (Term.int_eval (1)) rfl), trivial⟩ ⟨hq.1, hq.2.1, (hq.2.2.sift fun y hy => Or.inr (N y hy)).mono (by decide) (by decide)⟩⟩
theorem main_1_1 : Claimed_1_1 := comes_1 fun _ _ _ _ _ _ h hF => ⟨h.1, hF⟩
theorem main_1_2 : Claimed_1_2 := comes_1 fun _ _ _ _ _ _ h hF => ⟨h.2.1, hF⟩
end Jvm.Pilot.@@N@@
namespace Jvm.Pilot.@@N@@
open Jvm Jvm.ClassFile Sem Op Lib Jvm.Free Jvm.Stand Jvm.Pilot.@@N@@.Jvm.D
/-! MADE BY PROGRAM (witnessworld.py) out of the Statement's table words and the real class files: 10 classes; the members and pool entries that the words name. The judged class is class 1, her method 3. -/
namespace start1
open Jvm.ClassFile
def u (s : String) : CpInfo := .utf8 (stringToUtf16 s)
/-- a pool by its gaps: so many unusable entries, then the entry; so many at the end -/
def gap : Nat → List CpInfo → List CpInfo
  | 0, r => r
  | n + 1, r => .unusable :: gap n r
def poolList (es : List (Nat × CpInfo)) (last : Nat) : List CpInfo := es.foldr (fun e r => gap e.1 (e.2 :: r)) (gap last [])
def pool (es : List (Nat × CpInfo)) (last : Nat) : Array CpInfo := ⟨poolList es last⟩
def fileOf (pool : Array CpInfo) (this : Nat) (attrs : Array Attribute := #[]) (ms : Array MethodInfo := #[]) (fl : Nat := 33) (sup : Nat := 0) (ifs : Array Nat := #[]) (fds : Array FieldInfo := #[]) : ClassFile where
  minorVersion := 0
  majorVersion := 65
  constantPool := pool
  accessFlags := fl
  thisClass := this
  superClass := sup
  interfaces := ifs
  fields := fds
  methods := ms
  attributes := attrs
def plain (name : String) (sup : Option ClassId) : Class where
  name := name
  kind := .ordinary
  loader := none
  accessFlags := 33
  super := sup
  interfaces := #[]
  cf := none
  fields := #[]
  methods := #[]
  instanceTypes := #[]
  staticTypes := #[]
  resolved := #[]
  callSites := []
  init := .initialized
  statics := none
  mirror := none

def pool0 : Array CpInfo := pool [(5, u "<init>"), (0, u "()V"), (1, .class_ 10), (1, u "java/lang/Object")] 113

def k0m0 : Method := { name := "<init>", desc := "()V", sig := { parameters := [], returnType := none }, accessFlags := 1, code := none }
/-- java/lang/Object -/
def k0 : Class := { plain "java/lang/Object" none with
  accessFlags := 33
  interfaces := #[]
  cf := some (fileOf pool0 8 #[] #[{ accessFlags := 1, nameIndex := 5, descriptorIndex := 6, attributes := #[] }] 33 0 #[] #[])
  fields := #[]
  methods := #[k0m0]
  instanceTypes := #[]
  staticTypes := #[]
  resolved := Array.replicate 124 none
  statics := none }

def pool1 : Array CpInfo := pool [(2, .class_ 4), (1, u "java/lang/Object"), (0, u "<init>"), (0, u "()V"), (0, .integer 2147483647), (0, .methodref 9 10), (0, .class_ 11), (0, .nameAndType 12 13), (0, u "com/example/backtrail/backtrail/core/GraphLayoutNamespaceLengthPinLaw"), (0, u "pick"), (0, u "(I)B"), (0, .methodref 9 15), (0, .nameAndType 16 17), (0, u "sep"), (0, u "(B)Z"), (0, .methodref 19 20), (0, .class_ 21), (0, .nameAndType 22 23), (0, u "com/example/backtrail/backtrail/core/GraphLayout"), (0, u "namespaceLength"), (0, u "([B)I"), (3, u "law"), (0, u "(IIIII)Z")] 4

def k1m0 : Method := { name := "<init>", desc := "()V", sig := { parameters := [], returnType := none }, accessFlags := 2, code := none }
def k1c1 : Code := { maxStack := 2, maxLocals := 2, code := method_2_code, exceptionTable := #[], attributes := #[] }
def k1m1 : Method := { name := "pick", desc := "(I)B", sig := { parameters := [.int], returnType := some .byte }, accessFlags := 10, code := some k1c1 }
def k1c2 : Code := { maxStack := 2, maxLocals := 1, code := method_3_code, exceptionTable := #[], attributes := #[] }
def k1m2 : Method := { name := "sep", desc := "(B)Z", sig := { parameters := [.byte], returnType := some .boolean }, accessFlags := 10, code := some k1c2 }
def k1c3 : Code := { maxStack := 3, maxLocals := 12, code := code, exceptionTable := #[], attributes := #[] }
def k1m3 : Method := { name := "law", desc := "(IIIII)Z", sig := { parameters := [.int, .int, .int, .int, .int], returnType := some .boolean }, accessFlags := 9, code := some k1c3 }
/-- com/example/backtrail/backtrail/core/GraphLayoutNamespaceLengthPinLaw -/
def k1 : Class := { plain "com/example/backtrail/backtrail/core/GraphLayoutNamespaceLengthPinLaw" (some 0) with
  accessFlags := 49
  interfaces := #[]
  cf := some (fileOf pool1 9 #[] #[{ accessFlags := 2, nameIndex := 5, descriptorIndex := 6, attributes := #[] }, { accessFlags := 10, nameIndex := 12, descriptorIndex := 13, attributes := #[] }, { accessFlags := 10, nameIndex := 16, descriptorIndex := 17, attributes := #[] }, { accessFlags := 9, nameIndex := 27, descriptorIndex := 28, attributes := #[] }] 49 2 #[] #[])
  fields := #[]
  methods := #[k1m0, k1m1, k1m2, k1m3]
  instanceTypes := #[]
  staticTypes := #[]
  resolved := Array.replicate 33 none
  statics := none }

def pool2 : Array CpInfo := pool [(2, .class_ 4), (1, u "java/lang/Object"), (0, u "<init>"), (0, u "()V"), (0, .class_ 8), (0, u "java/lang/Record")] 13

def k2m0 : Method := { name := "<init>", desc := "()V", sig := { parameters := [], returnType := none }, accessFlags := 4, code := none }
/-- java/lang/Record -/
def k2 : Class := { plain "java/lang/Record" (some 0) with
  accessFlags := 1057
  interfaces := #[]
  cf := some (fileOf pool2 7 #[] #[{ accessFlags := 4, nameIndex := 5, descriptorIndex := 6, attributes := #[] }] 1057 2 #[] #[])
  fields := #[]
  methods := #[k2m0]
  instanceTypes := #[]
  staticTypes := #[]
  resolved := Array.replicate 22 none
  statics := none }

def pool3 : Array CpInfo := pool [(2, .class_ 4), (1, u "java/lang/Record"), (3, .class_ 10), (1, u "com/example/backtrail/backtrail/core/GraphLayout"), (0, u "nodes"), (0, u "I"), (2, u "edges"), (2, u "slots"), (0, u "J"), (2, u "recordBytes"), (2, u "positionWidth"), (2, u "namespaces"), (2, u "namespaceBytes"), (104, .class_ 137), (0, u "com/example/backtrail/backtrail/core/GraphLayout$Record"), (92, u "EMPTY"), (0, u "Lcom/example/backtrail/backtrail/core/GraphLayout;"), (0, u "HEADER_SIZE"), (2, u "ENTITY"), (1, u "MAX_NAMESPACES"), (1, u "FILTER_BLOCK_BYTES"), (1, u "FILTER_BITS"), (1, u "FILTER_PROBES"), (1, u "MAGIC"), (0, u "FNV_OFFSET_BASIS"), (0, u "FNV_PRIME"), (0, u "VARINT_BITS"), (0, u "VARINT_MORE"), (1, u "FILTER_BIT_BITS"), (14, u "namespaceLength"), (0, u "([B)I")] 59

def k3c0 : Code := { maxStack := 2, maxLocals := 2, code := prog_11_method_20_code, exceptionTable := #[], attributes := #[] }
def k3m0 : Method := { name := "namespaceLength", desc := "([B)I", sig := { parameters := [(.array .byte)], returnType := some .int }, accessFlags := 8, code := some k3c0 }
/-- com/example/backtrail/backtrail/core/GraphLayout -/
def k3 : Class := { plain "com/example/backtrail/backtrail/core/GraphLayout" (some 2) with
  accessFlags := 48
  interfaces := #[]
  cf := some (fileOf pool3 8 #[.nestMembers #[136]] #[{ accessFlags := 8, nameIndex := 266, descriptorIndex := 267, attributes := #[] }] 48 2 #[] #[{ accessFlags := 18, nameIndex := 11, descriptorIndex := 12, attributes := #[] }, { accessFlags := 18, nameIndex := 15, descriptorIndex := 12, attributes := #[] }, { accessFlags := 18, nameIndex := 18, descriptorIndex := 19, attributes := #[] }, { accessFlags := 18, nameIndex := 22, descriptorIndex := 19, attributes := #[] }, { accessFlags := 18, nameIndex := 25, descriptorIndex := 12, attributes := #[] }, { accessFlags := 18, nameIndex := 28, descriptorIndex := 12, attributes := #[] }, { accessFlags := 18, nameIndex := 31, descriptorIndex := 19, attributes := #[] }, { accessFlags := 24, nameIndex := 232, descriptorIndex := 12, attributes := #[] }, { accessFlags := 24, nameIndex := 235, descriptorIndex := 12, attributes := #[] }, { accessFlags := 24, nameIndex := 237, descriptorIndex := 12, attributes := #[] }, { accessFlags := 24, nameIndex := 239, descriptorIndex := 12, attributes := #[] }, { accessFlags := 24, nameIndex := 241, descriptorIndex := 12, attributes := #[] }, { accessFlags := 24, nameIndex := 243, descriptorIndex := 12, attributes := #[] }, { accessFlags := 24, nameIndex := 230, descriptorIndex := 231, attributes := #[] }, { accessFlags := 26, nameIndex := 245, descriptorIndex := 19, attributes := #[] }, { accessFlags := 26, nameIndex := 246, descriptorIndex := 19, attributes := #[] }, { accessFlags := 26, nameIndex := 247, descriptorIndex := 19, attributes := #[] }, { accessFlags := 26, nameIndex := 248, descriptorIndex := 12, attributes := #[] }, { accessFlags := 26, nameIndex := 249, descriptorIndex := 12, attributes := #[] }, { accessFlags := 26, nameIndex := 251, descriptorIndex := 12, attributes := #[] }])
  fields := #[{ name := "nodes", type := .int, accessFlags := 18, slot := 0, constantValue := 0 }, { name := "edges", type := .int, accessFlags := 18, slot := 1, constantValue := 0 }, { name := "slots", type := .long, accessFlags := 18, slot := 2, constantValue := 0 }, { name := "recordBytes", type := .long, accessFlags := 18, slot := 3, constantValue := 0 }, { name := "positionWidth", type := .int, accessFlags := 18, slot := 4, constantValue := 0 }, { name := "namespaces", type := .int, accessFlags := 18, slot := 5, constantValue := 0 }, { name := "namespaceBytes", type := .long, accessFlags := 18, slot := 6, constantValue := 0 }, { name := "HEADER_SIZE", type := .int, accessFlags := 24, slot := 0, constantValue := 0 }, { name := "ENTITY", type := .int, accessFlags := 24, slot := 1, constantValue := 0 }, { name := "MAX_NAMESPACES", type := .int, accessFlags := 24, slot := 2, constantValue := 0 }, { name := "FILTER_BLOCK_BYTES", type := .int, accessFlags := 24, slot := 3, constantValue := 0 }, { name := "FILTER_BITS", type := .int, accessFlags := 24, slot := 4, constantValue := 0 }, { name := "FILTER_PROBES", type := .int, accessFlags := 24, slot := 5, constantValue := 0 }, { name := "EMPTY", type := (.object "com/example/backtrail/backtrail/core/GraphLayout"), accessFlags := 24, slot := 6, constantValue := 0 }, { name := "MAGIC", type := .long, accessFlags := 26, slot := 7, constantValue := 0 }, { name := "FNV_OFFSET_BASIS", type := .long, accessFlags := 26, slot := 8, constantValue := 0 }, { name := "FNV_PRIME", type := .long, accessFlags := 26, slot := 9, constantValue := 0 }, { name := "VARINT_BITS", type := .int, accessFlags := 26, slot := 10, constantValue := 0 }, { name := "VARINT_MORE", type := .int, accessFlags := 26, slot := 11, constantValue := 0 }, { name := "FILTER_BIT_BITS", type := .int, accessFlags := 26, slot := 12, constantValue := 0 }]
  methods := #[k3m0]
  instanceTypes := #[.int, .int, .long, .long, .int, .int, .long]
  staticTypes := #[.int, .int, .int, .int, .int, .int, (.object "com/example/backtrail/backtrail/core/GraphLayout"), .long, .long, .long, .int, .int, .int]
  resolved := Array.replicate 327 none
  statics := none }

def pool4 : Array CpInfo := pool [(1, u "java/lang/Cloneable"), (0, .class_ 1), (0, u "java/lang/Object"), (0, .class_ 3)] 3

/-- java/lang/Cloneable -/
def k4 : Class := { plain "java/lang/Cloneable" (some 0) with
  accessFlags := 1537
  interfaces := #[]
  cf := some (fileOf pool4 2 #[] #[] 1537 4 #[] #[])
  fields := #[]
  methods := #[]
  instanceTypes := #[]
  staticTypes := #[]
  resolved := Array.replicate 8 none
  statics := none }

def pool5 : Array CpInfo := pool [(1, u "java/io/Serializable"), (0, .class_ 1), (0, u "java/lang/Object"), (0, .class_ 3)] 3

/-- java/io/Serializable -/
def k5 : Class := { plain "java/io/Serializable" (some 0) with
  accessFlags := 1537
  interfaces := #[]
  cf := some (fileOf pool5 2 #[] #[] 1537 4 #[] #[])
  fields := #[]
  methods := #[]
  instanceTypes := #[]
  staticTypes := #[]
  resolved := Array.replicate 8 none
  statics := none }

/-- the primitive byte -/
def k6 : Class := { plain "byte" none with kind := .primitive 'B', accessFlags := 0x411 }
/-- [B -/
def k7 : Class := { plain "[B" (some 0) with kind := .array 6 .byte, interfaces := #[4, 5], accessFlags := 1041 }

/-- the primitive int -/
def k8 : Class := { plain "int" none with kind := .primitive 'I', accessFlags := 0x411 }
/-- [I -/
def k9 : Class := { plain "[I" (some 0) with kind := .array 8 .int, interfaces := #[4, 5], accessFlags := 1041 }

def heap : Heap := #[]
def classes : Array Class := #[k0, k1, k2, k3, k4, k5, k6, k7, k8, k9]
def interned : List (Array UInt16 × Addr) := []
def slotsUsed : Nat := 0
def theMethod : MethodId := ⟨1, 3⟩
def args0 : Array Value := #[.int 3, .int 0, .int 1, .int 2, .int 3]
def aboutOver (below : List Frame) : State where
  vm := { classes := classes, interned := interned.toArray }
  heap := heap
  slotsUsed := slotsUsed
  threads := #[{ frames := .invoking theMethod args0 :: below }]
def below0 : List Frame := [.native { method := ⟨0, 0⟩, args := #[] }]
def about1 : State := aboutOver below0
def p0 : Program := .bare "" "" ""
def e0 : Env := launch0.env 0 0 0
theorem w_frames : about1.frames = Frame.invoking theMethod args0 :: below0 := rfl
set_option maxRecDepth 65536 in
theorem w_args : argsFit about1.vm theMethod args0 = true := by decide +kernel
set_option maxRecDepth 65536 in
theorem w_heap : heapFits about1 = true := by decide +kernel
set_option maxRecDepth 65536 in
theorem w_runnable : about1.curStatus? = some .runnable := by decide +kernel
set_option maxRecDepth 65536 in
theorem w_alone : about1.alone = true := by decide +kernel
set_option maxRecDepth 65536 in
theorem w_named : about1.methodNamed? x = some theMethod := by decide +kernel
set_option maxRecDepth 65536 in
theorem w_hears : about1.hears theMethod below0 = true := by decide +kernel
set_option maxRecDepth 65536 in
theorem w_ripe : about1.ripe theMethod args0 below0 = true := by decide +kernel
theorem w_running : about1.status = .running := rfl
set_option maxRecDepth 65536 in
theorem w_room : about1.hasRoom e0.platform room_1 = true :=
  launch0.hasRoom_least _ room_1 (by decide +kernel) (by decide +kernel) (by decide +kernel) (by decide +kernel) (by decide +kernel) (by decide +kernel)
theorem allAtoms_all (ts : List Jvm.Cond) (a : Array Jvm.Value) (st : Jvm.State) : (allAtoms ts).before a st = ts.all (fun c => c.before a st) := by
  induction ts with
  | nil => rfl
  | cons c t ih =>
    show (Jvm.Cond.and c (allAtoms t)).before a st = _
    rw [Jvm.Cond.before_and, ih, List.all_cons]
def words1 : List Jvm.Cond := Jvm.Cond.code x code maxLocals ret :: tables_1
/-- a 'code' word, met by the world's own term for the bytes: nothing is compared byte by byte -/
theorem code_word {y : MethodName} {bytes : ByteArray} {mx : Nat} {rt : Option FieldType} {a : Array Value} {s : State} {m : MethodId} {meth : Method} {c : Code} (h1 : s.methodNamed? y = some m) (h2 : s.vm.method? m = some meth) (h3 : meth.code = some c) (h4 : c.code = bytes)
    (h5 : (c.maxLocals == mx && c.exceptionTable.isEmpty && decide (c.maxStack ≤ mostOperands) && decide (meth.sig.returnType = rt) && !meth.locks && decide (parseMethodDescriptor y.desc = some meth.sig)) = true) : (Jvm.Cond.code y bytes mx rt).before a s = true := by
  simp only [Bool.and_eq_true, beq_iff_eq, Bool.not_eq_true', decide_eq_true_eq] at h5
  obtain ⟨⟨⟨⟨⟨g1, g2⟩, g3⟩, g4⟩, g5⟩, g6⟩ := h5
  simp [Cond.before, Cond.holds, Cond.value, h1, h2, h3, h4, g1, g2, g3, g4, g5, g6]
def isCode : Jvm.Cond → Bool
  | .code _ _ _ _ => true
  | _ => false
theorem all_split {L : List Jvm.Cond} {P : Jvm.Cond → Bool} (h1 : L.all (fun c => isCode c || P c) = true) (h2 : ∀ c ∈ L.filter isCode, P c = true) : L.all P = true := by
  refine List.all_eq_true.mpr fun c hc => ?_
  have h := List.all_eq_true.mp h1 c hc
  rcases Bool.eq_false_or_eq_true (isCode c) with hi | hi
  · exact h2 c (List.mem_filter.mpr ⟨hc, hi⟩)
  · simpa [hi] using h
set_option maxRecDepth 65536 in
theorem w_c0 : (Jvm.Cond.code x code maxLocals ret).before args0 about1 = true := code_word (m := ⟨1, 3⟩) (meth := k1m3) (c := k1c3) (by decide +kernel) rfl rfl rfl (by decide +kernel)
set_option maxRecDepth 65536 in
theorem w_c1 : (Jvm.Cond.code ({ cls := "com/example/backtrail/backtrail/core/GraphLayoutNamespaceLengthPinLaw", name := "pick", desc := "(I)B" } : Jvm.MethodName) method_2_code (2 : Nat) (Option.some Jvm.ClassFile.FieldType.byte)).before args0 about1 = true := code_word (m := ⟨1, 1⟩) (meth := k1m1) (c := k1c1) (by decide +kernel) rfl rfl rfl (by decide +kernel)
set_option maxRecDepth 65536 in
theorem w_c2 : (Jvm.Cond.code ({ cls := "com/example/backtrail/backtrail/core/GraphLayout", name := "namespaceLength", desc := "([B)I" } : Jvm.MethodName) prog_11_method_20_code (2 : Nat) (Option.some Jvm.ClassFile.FieldType.int)).before args0 about1 = true := code_word (m := ⟨3, 0⟩) (meth := k3m0) (c := k3c0) (by decide +kernel) rfl rfl rfl (by decide +kernel)
set_option maxRecDepth 65536 in
theorem w_c3 : (Jvm.Cond.code ({ cls := "com/example/backtrail/backtrail/core/GraphLayoutNamespaceLengthPinLaw", name := "sep", desc := "(B)Z" } : Jvm.MethodName) method_3_code (1 : Nat) (Option.some Jvm.ClassFile.FieldType.boolean)).before args0 about1 = true := code_word (m := ⟨1, 2⟩) (meth := k1m2) (c := k1c2) (by decide +kernel) rfl rfl rfl (by decide +kernel)
def codes1 : List Jvm.Cond := [Jvm.Cond.code x code maxLocals ret, Jvm.Cond.code ({ cls := "com/example/backtrail/backtrail/core/GraphLayoutNamespaceLengthPinLaw", name := "pick", desc := "(I)B" } : Jvm.MethodName) method_2_code (2 : Nat) (Option.some Jvm.ClassFile.FieldType.byte), Jvm.Cond.code ({ cls := "com/example/backtrail/backtrail/core/GraphLayout", name := "namespaceLength", desc := "([B)I" } : Jvm.MethodName) prog_11_method_20_code (2 : Nat) (Option.some Jvm.ClassFile.FieldType.int), Jvm.Cond.code ({ cls := "com/example/backtrail/backtrail/core/GraphLayoutNamespaceLengthPinLaw", name := "sep", desc := "(B)Z" } : Jvm.MethodName) method_3_code (1 : Nat) (Option.some Jvm.ClassFile.FieldType.boolean)]
set_option maxRecDepth 65536 in
theorem codes_eq : words1.filter isCode = codes1 := rfl
theorem w_codes : ∀ c ∈ words1.filter isCode, c.before args0 about1 = true := by
  rw [codes_eq]
  intro c hc
  simp only [codes1, List.mem_cons, List.not_mem_nil, or_false] at hc
  rcases hc with rfl | rfl | rfl | rfl
  · exact w_c0
  · exact w_c1
  · exact w_c2
  · exact w_c3
set_option maxRecDepth 65536 in
theorem w_t1 : words1.all (fun c => isCode c || c.before args0 about1) = true := by decide +kernel
theorem w_tables : (allAtoms (Jvm.Cond.code x code maxLocals ret :: tables_1)).before args0 about1 = true := by
  rw [allAtoms_all]
  show words1.all (fun c => c.before args0 about1) = true
  refine all_split ?_ w_codes
  rw [w_t1]
set_option maxRecDepth 65536 in
theorem w_case : (Jvm.Cond.and given_1 narrow_1).before args0 about1 = true := by decide +kernel
theorem w_applies : (headSpec (Jvm.Cond.code x code maxLocals ret :: tables_1) room_1).applies x e0.platform about1 = true :=
  (Spec.applies_iff w_frames).mpr ⟨w_running, w_runnable, w_alone, w_named, w_hears, w_ripe, w_room, w_tables⟩
theorem atStart : AtStart classFile x code maxLocals ret World_1 tables_1 room_1 Calls_1 rest_1 Pre_1 launch0 p0 e0 about1 theMethod args0 below0 :=
  ⟨lists_1, trivial, launch0.admits_env _ _ _, launch0.least_env, fairChoices_fair.cas, fairChoices_fair.clock, w_frames, w_args, w_heap, w_applies, trivial, trivial, w_case⟩
end start1
theorem witness_1 : WitnessClaimed_1 := ⟨start1.p0, start1.e0, start1.about1, start1.theMethod, start1.args0, start1.below0, start1.atStart⟩
end Jvm.Pilot.@@N@@
