import JvmDerived
import JvmDerived.Pilot.@@N@@Statement
import JvmDerived.Pilot.@@N@@Code
set_option linter.unusedVariables false
set_option linter.unusedSimpArgs false
@@BLOCK:NumsL.lean.txt@@
namespace Jvm.RoadKit
open Sem ClassFile Op Lib Jvm.Stand Jvm.Free Jvm.LawKit
section New
variable {p : Program} {l : Launch} {e : Env} {R : Room} {s : State} {m : MethodId} {args : Array Value} {below : List Frame} {meth : Method} {c : Code} {T : State} {locs : List Loc} {cells slots : Nat}
theorem retI (X : Stand p l e R s m args below meth c T locs cells slots) (hx : p.tables.exec = Jvm.exec) {pc : Nat} {Ls : Array Slot} {z : Int32} {rest : List Value} (hret : meth.sig.returnType = some .int) (hd : decode c.code pc = .ok (.ireturn, 1)) {fs : List Frame}
    (hl : ∀ (f : JFrame) (acts : List Action), f.method = m → f.locked = none → f.entered = [] → (doReturn e (T.setTop f) acts (some (.int z))).1 = T.setFrames fs) : Steps p.tables e below (T.setTop (mkF m pc Ls (.int z :: rest))) (T.setFrames fs) := by
  have hm' : T.vm.method? m = some meth := X.method'
  have hn : narrow .int (.int z) = .int z := rfl
  show Steps p.tables e below (T.setTop { method := m, pc := pc, locals := Ls, stack := _ :: rest, locked := none }) _
  jvm_step X.here [X.here.top, hx, hd, hm', hret, hn]
  first | (intro acts; rw [hl _ acts rfl rfl rfl]) | rw [hl _ _ rfl rfl rfl]
  exact Steps.refl _
/-- the run from A comes to a return of which F says the value, the heap and the written places -/
def own_Goes (p : Program) (e : Env) (below : List Frame) (s : State) (F : Option Value → Heap → List Loc → Prop) (k n : Nat) (A : State) : Prop :=
  ∃ s₂ o, Steps p.tables e below A s₂ ∧ s₂.status = .running ∧ Ended s₂ below o ∧ ∃ v L, o = .returned v ∧ F v s₂.heap L ∧ FrameEnd s o s₂ L k n
variable {F : Option Value → Heap → List Loc → Prop} {k n : Nat}
theorem own_Goes.step {A B : State} (h : ∀ t, Steps p.tables e below B t → Steps p.tables e below A t) (g : own_Goes p e below s F k n B) : own_Goes p e below s F k n A := by
  obtain ⟨s₂, o, h1, h2⟩ := g
  exact ⟨s₂, o, h _ h1, h2⟩
theorem own_endI (X : Stand p l e R s m args below meth c T locs cells slots) (hx : p.tables.exec = Jvm.exec) (hlk : meth.locks = false) {pc : Nat} {Ls : Array Slot} {z : Int32} {rest : List Value} (hret : meth.sig.returnType = some .int) (hd : decode c.code pc = .ok (.ireturn, 1)) (hF : F (some (.int z)) T.heap locs) (hk : cells ≤ k) (hn : slots ≤ n) :
    own_Goes p e below s F k n (T.setTop (mkF m pc Ls (.int z :: rest))) := by
  obtain ⟨fs, hr, hrun, hended, hW, hsame⟩ := X.leave (v := some (.int z)) (fun h => by rw [hret] at h; cases h) hlk
  exact ⟨_, _, retI X hx hret hd hr, hrun, hended, _, _, rfl, hF, ⟨_, rfl⟩, hW, hsame.mono hk hn⟩
theorem own_endN (X : Stand p l e R s m args below meth c T locs cells slots) (hx : p.tables.exec = Jvm.exec) (hlk : meth.locks = false) {pc : Nat} {Ls : Array Slot} {z : Int32} {t : FieldType} {rest : List Value} (hret : meth.sig.returnType = some t) (ht : t = .boolean ∨ t = .byte ∨ t = .char ∨ t = .short) (hd : decode c.code pc = .ok (.ireturn, 1)) (hF : F (some (.int (nar t z))) T.heap locs) (hk : cells ≤ k) (hn : slots ≤ n) :
    own_Goes p e below s F k n (T.setTop (mkF m pc Ls (.int z :: rest))) := by
  obtain ⟨fs, hr, hrun, hended, hW, hsame⟩ := X.leave (v := some (.int (nar t z))) (fun h => by rw [hret] at h; cases h) hlk
  exact ⟨_, _, retN X hx hret ht hd hr, hrun, hended, _, _, rfl, hF, ⟨_, rfl⟩, hW, hsame.mono hk hn⟩
theorem own_endJ (X : Stand p l e R s m args below meth c T locs cells slots) (hx : p.tables.exec = Jvm.exec) (hlk : meth.locks = false) {pc : Nat} {Ls : Array Slot} {z : Int64} (hret : meth.sig.returnType = some .long) (hd : decode c.code pc = .ok (.lreturn, 1)) (hF : F (some (.long z)) T.heap locs) (hk : cells ≤ k) (hn : slots ≤ n) :
    own_Goes p e below s F k n (T.setTop (mkF m pc Ls [.long z])) := by
  obtain ⟨fs, hr, hrun, hended, hW, hsame⟩ := X.leave (v := some (.long z)) (fun h => by rw [hret] at h; cases h) hlk
  exact ⟨_, _, X.lreturnOut hx hret hd hr, hrun, hended, _, _, rfl, hF, ⟨_, rfl⟩, hW, hsame.mono hk hn⟩
theorem own_endV (X : Stand p l e R s m args below meth c T locs cells slots) (hx : p.tables.exec = Jvm.exec) (hlk : meth.locks = false) {pc : Nat} {Ls : Array Slot} (hret : meth.sig.returnType = none) (hd : decode c.code pc = .ok (.return_, 1)) (hF : F none T.heap locs) (hk : cells ≤ k) (hn : slots ≤ n) :
    own_Goes p e below s F k n (T.setTop (mkF m pc Ls [])) := by
  obtain ⟨fs, hr, hrun, hended, hW, hsame⟩ := X.leave (v := none) (fun _ => rfl) hlk
  exact ⟨_, _, X.returnOut hx hret hd hr, hrun, hended, _, _, rfl, hF, ⟨_, rfl⟩, hW, hsame.mono hk hn⟩
theorem own_endA (X : Stand p l e R s m args below meth c T locs cells slots) (hx : p.tables.exec = Jvm.exec) (hlk : meth.locks = false) {pc : Nat} {Ls : Array Slot} {w : Value} {t : FieldType} (hw : w.isRef = true) (hret : meth.sig.returnType = some t) (ht : t.isReference = true) (hd : decode c.code pc = .ok (.areturn, 1)) (hF : F (some w) T.heap locs) (hk : cells ≤ k) (hn : slots ≤ n) :
    own_Goes p e below s F k n (T.setTop (mkF m pc Ls [w])) := by
  obtain ⟨fs, hr, hrun, hended, hW, hsame⟩ := X.leave (v := some w) (fun h => by rw [hret] at h; cases h) hlk
  exact ⟨_, _, X.areturnOut hx hw hret ht hd hr, hrun, hended, _, _, rfl, hF, ⟨_, rfl⟩, hW, hsame.mono hk hn⟩
theorem own_lrem (x y : Int64) : x - x / y * y = x % y := by
  refine Int64.toInt_inj.mp ?_
  rw [Jvm.Kit.i64_rem, Int64.toInt_mod]
theorem own_lremM {g : JFrame} {target : State} (X : Stand p l e R s m args below meth c T locs cells slots) (hx : p.tables.exec = Jvm.exec) (hg : g.method = m) {x y : Int64} {rest : List Value} (hd : decode c.code g.pc = .ok (.lrem, 1)) (hs : g.stack = .long y :: .long x :: rest) (hy : y ≠ 0)
    (hr : Steps p.tables e below (T.setTop { g with pc := g.pc + 1, stack := .long (x % y) :: rest }) target) : Steps p.tables e below (T.setTop g) target :=
  XT.lrem X.here hx hg hd hs hy (by rw [own_lrem]; exact hr)
/-- the three calls, by a contract in this family, carried forward -/
theorem own_stat {Z : State} {a0 : Array Value} {h : Heap} (X : Stand p l e R s m args below meth c T locs cells slots) (hx : p.tables.exec = Jvm.exec) (hZ : Z.Warmed39 s.vm) (eT : T.heap = h) {own : String} {index : Nat} {y : MethodName} {bytes : ByteArray} {maxL : Nat} {ret : Option FieldType} {rm : Room} {W : Nat} {argsL rest : List Value} {Q : Option Value → Heap → List Loc → Prop}
    (hown : s.vm.findClass own = some m.cls) (wl : (Cond.methodLink own index y).before a0 Z = true) (wst : (Cond.static y).before a0 Z = true) (wi : (Cond.initialized y.cls).before a0 Z = true) (wc : (Cond.code y bytes maxL ret).before a0 Z = true) (hy : y.cls ≠ "java/lang/invoke/MethodHandle" ∧ y.cls ≠ "java/lang/invoke/VarHandle")
    (hM : MetFree l y (head1 [Cond.code y bytes maxL ret] rm) (fun a U => a = argsL.toArray ∧ Z.Warmed39 U.vm ∧ U.heap = h) (fun _ _ _ _ _ => True) (fun _ U o U' => ∃ w L, o = .returned w ∧ Q w U'.heap L ∧ FrameEnd U o U' L rm.cells rm.slots))
    (hf : rm.frames + 1 ≤ R.frames) (hl : W + (maxL + 11) + rm.locals ≤ R.locals) (hcells : cells + rm.cells ≤ R.cells) (hslots : slots + rm.slots ≤ R.slots)
    {g : JFrame} (hg : g.method = m) (hsize : g.locals.size = c.maxLocals) (hlen : ∀ sig, parseMethodDescriptor y.desc = some sig → argsL.length = sig.parameters.length) (hstack : g.stack = argsL.reverse ++ rest) (hW : 2 * g.monitorRoom + (rest.map fun v => v.category).sum ≤ W) (hdg : decode c.code g.pc = .ok (.invokestatic index, 3)) :
    ∃ w T' L, Q w T'.heap L ∧ Stand p l e R s m args below meth c T' (locs ++ L) (cells + rm.cells) (slots + rm.slots) ∧ ∀ t, Steps p.tables e below (T'.setTop { g with pc := g.pc + 3, stack := w.toList ++ rest }) t → Steps p.tables e below (T.setTop g) t := by
  have hB := backOf (R := R) (p := p) (e := e) (below := below) (args := args) (len := 3) (W := W) (Q := Q) hM hZ wc wi hf hl
  obtain ⟨w, vm₁, ⟨U, Lc, k1, n1⟩, -, X', ⟨L, hQ, hL, hC, hS⟩, st⟩ := Jvm.LawKit.callS X hx (y := y) hown (mvT hZ wl) (mvT hZ wst) (mvT hZ wi) (mvT hZ wc) hy hB (g := g) hg hsize hlen hstack hW hdg (fun _ _ => ⟨rfl, eT, hcells, hslots⟩)
  dsimp only [Pt.U, Pt.locs, Pt.cells, Pt.slots] at X' hQ hL hC hS st
  subst hL hC hS
  exact ⟨w, U, L, hQ, X', st⟩
theorem own_spec {Z : State} {a0 : Array Value} {h : Heap} (X : Stand p l e R s m args below meth c T locs cells slots) (hx : p.tables.exec = Jvm.exec) (hZ : Z.Warmed39 s.vm) (eT : T.heap = h) {own : String} {index : Nat} {y : MethodName} {bytes : ByteArray} {maxL : Nat} {rm : Room} {W : Nat} {a : Addr} {argsL rest : List Value} {Q : Option Value → Heap → List Loc → Prop}
    (hy1 : y.name = "<init>") (hown : s.vm.findClass own = some m.cls) (wl : (Cond.methodLink own index y).before a0 Z = true) (wst : (Cond.instanceMethod y).before a0 Z = true) (wi : (Cond.initialized y.cls).before a0 Z = true) (wc : (Cond.code y bytes maxL none).before a0 Z = true) (hy : y.cls ≠ "java/lang/invoke/MethodHandle" ∧ y.cls ≠ "java/lang/invoke/VarHandle")
    (hM : MetFree l y (head1 [Cond.code y bytes maxL none] rm) (fun b U => b = (.ref a :: argsL).toArray ∧ Z.Warmed39 U.vm ∧ U.heap = h) (fun _ _ _ _ _ => True) (fun _ U o U' => ∃ w L, o = .returned w ∧ Q w U'.heap L ∧ FrameEnd U o U' L rm.cells rm.slots))
    (hf : rm.frames + 1 ≤ R.frames) (hl : W + (maxL + 11) + rm.locals ≤ R.locals) (hcells : cells + rm.cells ≤ R.cells) (hslots : slots + rm.slots ≤ R.slots)
    {g : JFrame} (hg : g.method = m) (hsize : g.locals.size = c.maxLocals) (hlen : ∀ sig, parseMethodDescriptor y.desc = some sig → argsL.length = sig.parameters.length) (hstack : g.stack = argsL.reverse ++ .ref a :: rest) (hW : 2 * g.monitorRoom + (rest.map fun v => v.category).sum ≤ W) (hdg : decode c.code g.pc = .ok (.invokespecial index, 3)) :
    ∃ w T' L, Q w T'.heap L ∧ Stand p l e R s m args below meth c T' (locs ++ L) (cells + rm.cells) (slots + rm.slots) ∧ ∀ t, Steps p.tables e below (T'.setTop { g with pc := g.pc + 3, stack := w.toList ++ rest }) t → Steps p.tables e below (T.setTop g) t := by
  have hB := backOf (R := R) (p := p) (e := e) (below := below) (args := args) (len := 3) (W := W) (Q := Q) hM hZ wc wi hf hl
  obtain ⟨w, vm₁, ⟨U, Lc, k1, n1⟩, -, X', ⟨L, hQ, hL, hC, hS⟩, st⟩ := X.specialBack hx (y := y) hy1 hown (mvT hZ wl) (mvT hZ wst) (mvT hZ wc) hy hB (g := g) hg hsize (Steps.refl _) (a := a) hlen hstack hW hdg (fun _ _ => ⟨rfl, eT, hcells, hslots⟩)
  dsimp only [Pt.U, Pt.locs, Pt.cells, Pt.slots] at X' hQ hL hC hS st
  subst hL hC hS
  exact ⟨w, U, L, hQ, X', fun t k => st.trans k⟩
theorem own_virt {Z : State} {a0 : Array Value} {h : Heap} (X : Stand p l e R s m args below meth c T locs cells slots) (hx : p.tables.exec = Jvm.exec) (hZ : Z.Warmed39 s.vm) (eT : T.heap = h) {own C : String} {index : Nat} {y : MethodName} {bytes : ByteArray} {maxL : Nat} {ret : Option FieldType} {rm : Room} {W : Nat} {a : Addr} {argsL rest : List Value} {Q : Option Value → Heap → List Loc → Prop}
    (E : Exa Z h a C) (hown : s.vm.findClass own = some m.cls) (wl : (Cond.methodLink own index y).before a0 Z = true) (wd : (Cond.declares y).before a0 Z = true) (ws : (Cond.selects C y y).before a0 Z = true) (wst : (Cond.instanceMethod y).before a0 Z = true) (wi : (Cond.initialized y.cls).before a0 Z = true) (wc : (Cond.code y bytes maxL ret).before a0 Z = true) (hy : y.cls ≠ "java/lang/invoke/MethodHandle" ∧ y.cls ≠ "java/lang/invoke/VarHandle")
    (hM : MetFree l y (head1 [Cond.code y bytes maxL ret] rm) (fun b U => b = (.ref a :: argsL).toArray ∧ Z.Warmed39 U.vm ∧ U.heap = h) (fun _ _ _ _ _ => True) (fun _ U o U' => ∃ w L, o = .returned w ∧ Q w U'.heap L ∧ FrameEnd U o U' L rm.cells rm.slots))
    (hf : rm.frames + 1 ≤ R.frames) (hl : W + (maxL + 11) + rm.locals ≤ R.locals) (hcells : cells + rm.cells ≤ R.cells) (hslots : slots + rm.slots ≤ R.slots)
    {g : JFrame} (hg : g.method = m) (hsize : g.locals.size = c.maxLocals) (hlen : ∀ sig, parseMethodDescriptor y.desc = some sig → argsL.length = sig.parameters.length) (hstack : g.stack = argsL.reverse ++ .ref a :: rest) (hW : 2 * g.monitorRoom + (rest.map fun v => v.category).sum ≤ W) (hdg : decode c.code g.pc = .ok (.invokevirtual index, 3)) :
    ∃ w T' L, Q w T'.heap L ∧ Stand p l e R s m args below meth c T' (locs ++ L) (cells + rm.cells) (slots + rm.slots) ∧ ∀ t, Steps p.tables e below (T'.setTop { g with pc := g.pc + 3, stack := w.toList ++ rest }) t → Steps p.tables e below (T.setTop g) t := by
  have hB := backOf (R := R) (p := p) (e := e) (below := below) (args := args) (len := 3) (W := W) (Q := Q) hM hZ wc wi hf hl
  obtain ⟨cq, kq, qa, qb, qc⟩ := isOf hZ eT E
  obtain ⟨w, vm₁, ⟨U, Lc, k1, n1⟩, -, X', ⟨L, hQ, hL, hC, hS⟩, st⟩ := X.virtualBack hx (y := y) (z := y) hown (mvT hZ wl) (mvT hZ wd) (notFace_of_selects (args := #[]) (mvT hZ ws)) (mvT hZ ws) (mvT hZ wst) hy hB qa qc (g := g) hg hsize (Steps.refl _) hlen hstack hW hdg (fun _ _ => ⟨rfl, eT, hcells, hslots⟩)
  dsimp only [Pt.U, Pt.locs, Pt.cells, Pt.slots] at X' hQ hL hC hS st
  subst hL hC hS
  exact ⟨w, U, L, hQ, X', fun t k => st.trans k⟩
/-- a call that left nothing behind -/
theorem own_clean {h : Heap} {w v : Option Value} {T' : State} {L : List Loc} {k0 n0 : Nat} (q : w = v ∧ L = [] ∧ T'.heap = h) (X : Stand p l e R s m args below meth c T' (locs ++ L) (cells + k0) (slots + n0)) (hk : k0 = 0) (hn : n0 = 0) : T'.heap = h ∧ Stand p l e R s m args below meth c T' locs cells slots := by
  obtain ⟨-, rfl, hh⟩ := q
  subst hk hn
  rw [List.append_nil] at X
  exact ⟨hh, X⟩
theorem own_nin {a b : Addr} (q : b ≠ a) : b ∉ [a] := fun h => q (List.mem_singleton.mp h)
theorem own_kt {h0 : Heap} {ws : List Addr} {a : Addr} (q : a ∈ ws ∨ h0.size ≤ a) : ∀ x ∈ [a], x ∈ ws ∨ h0.size ≤ x := fun x hx => by
  cases List.mem_singleton.mp hx; exact q
end New
end Jvm.RoadKit
namespace Jvm.RoadKit
open Sem ClassFile Op Lib Jvm.Stand Jvm.Free Jvm.LawKit
section Arrays
variable {p : Program} {l : Launch} {e : Env} {R : Room} {s : State} {m : MethodId} {args : Array Value} {below : List Frame} {meth : Method} {c : Code} {T : State} {locs : List Loc} {cells slots : Nat} {Z : State} {a0 : Array Value} {h h' : Heap} {a b : Addr} {ty : FieldType} {n : Nat} {f : Nat → Value}
/-- an array of n places; place i holds f i -/
def own_Ar (Z : State) (h : Heap) (a : Addr) (ty : FieldType) (n : Nat) (f : Nat → Value) : Prop := ∃ c : Cell, Arr Z h a c ty ∧ c.slots.size = n ∧ ∀ i, i < n → c.slots[i]? = some (f i)
theorem own_Ar.lt (F : own_Ar Z h a ty n f) : a < h.size := by obtain ⟨c, A, -⟩ := F; exact A.lt
theorem own_Ar.ext (F : own_Ar Z h a ty n f) (E : Ext h h') : own_Ar Z h' a ty n f := by obtain ⟨c, A, r⟩ := F; exact ⟨c, A.ext E, r⟩
theorem own_Ar.keep {ws : List Addr} (F : own_Ar Z h a ty n f) (K : Keep h h' ws) (q : a ∉ ws) : own_Ar Z h' a ty n f := by obtain ⟨c, A, r⟩ := F; exact ⟨c, ⟨K.2.1 a c A.1 q, A.2⟩, r⟩
theorem own_Ar.other {sl : Nat} {v : Value} (F : own_Ar Z h b ty n f) (W : Wr h h' a sl v) (q : b ≠ a) : own_Ar Z h' b ty n f := by obtain ⟨c, A, r⟩ := F; exact ⟨c, A.other W q, r⟩
theorem own_Ar.set {i : Nat} {v : Value} (F : own_Ar Z h a ty n f) (W : Wr h h' a i v) : own_Ar Z h' a ty n (fun j => if j = i then v else f j) := by
  obtain ⟨c, A, S, H⟩ := F
  refine ⟨c.setSlot i v, A.same W, by rw [sz_set]; exact S, fun j hj => ?_⟩
  show (c.slots.setIfInBounds i v)[j]? = some (if j = i then v else f j)
  rw [Array.getElem?_setIfInBounds]
  by_cases q : i = j
  · subst q
    rw [if_pos rfl, if_pos rfl, if_pos (by rw [S]; exact hj)]
  · rw [if_neg q, if_neg (Ne.symm q)]
    exact H j hj
theorem own_Ar.new {k : ClassId} {z : Int32} (A : Arr Z h a (newA k ty z) ty) : own_Ar Z h a ty z.toNatClampNeg (fun _ => defaultValue ty) := ⟨_, A, sz_new _ _ _, fun i hi => by simp [newA, hi]⟩
theorem own_Ar.congr {f' : Nat → Value} (F : own_Ar Z h a ty n f) (q : ∀ i, i < n → f i = f' i) : own_Ar Z h a ty n f' := by
  obtain ⟨c, A, S, H⟩ := F
  exact ⟨c, A, S, fun i hi => by rw [← q i hi]; exact H i hi⟩
theorem own_idx {j : Int32} {i : Nat} (hj : j.toInt = i) : j.toNatClampNeg = i := by
  show j.toInt.toNat = i
  omega
theorem own_in {j : Int32} {i n : Nat} (hj : j.toInt = i) (hi : i < n) : ¬ (j < 0 ∨ n ≤ j.toNatClampNeg) := by
  rw [own_idx hj, Int32.lt_iff_toInt_lt, Int32.toInt_zero]
  omega
theorem own_alen (X : Stand p l e R s m args below meth c T locs cells slots) (hx : p.tables.exec = Jvm.exec) (hZ : Z.Warmed39 s.vm) (eT : T.heap = h) (F : own_Ar Z h a ty n f) {z : Int32} (hz : n.toInt32 = z)
    {g : JFrame} (hg : g.method = m) {rest : List Value} (hs : g.stack = .ref a :: rest) (hd : decode c.code g.pc = .ok (.arraylength, 1)) : ∀ t, Steps p.tables e below (T.setTop { g with pc := g.pc + 1, stack := .int z :: rest }) t → Steps p.tables e below (T.setTop g) t := by
  obtain ⟨cl, A, S, H⟩ := F
  subst hz
  intro t k
  refine X.arraylength hx (cell := cl) (by rw [eT]; exact A.1) (State.isArrayOf_alike hZ.alike A.2.1) hg hs hd t ?_
  rw [S]
  exact k
theorem own_iald (X : Stand p l e R s m args below meth c T locs cells slots) (hx : p.tables.exec = Jvm.exec) (hZ : Z.Warmed39 s.vm) (eT : T.heap = h) (F : own_Ar Z h a .int n f) {j : Int32} {i : Nat} {v : Value} (hj : j.toInt = i) (hi : i < n) (hv : f i = v)
    {g : JFrame} (hg : g.method = m) {rest : List Value} (hs : g.stack = .int j :: .ref a :: rest) (hd : decode c.code g.pc = .ok (.iaload, 1)) : ∀ t, Steps p.tables e below (T.setTop { g with pc := g.pc + 1, stack := v :: rest }) t → Steps p.tables e below (T.setTop g) t := by
  obtain ⟨cl, A, S, H⟩ := F
  subst hv
  exact X.iaload hx (by rw [eT]; exact A.1) (State.isArrayOf_alike hZ.alike A.2.1) A.2.2 (by rw [S]; exact own_in hj hi) (by rw [own_idx hj]; exact H i hi) hg hs hd
theorem own_lald (X : Stand p l e R s m args below meth c T locs cells slots) (hx : p.tables.exec = Jvm.exec) (hZ : Z.Warmed39 s.vm) (eT : T.heap = h) (F : own_Ar Z h a .long n f) {j : Int32} {i : Nat} {v : Value} (hj : j.toInt = i) (hi : i < n) (hv : f i = v)
    {g : JFrame} (hg : g.method = m) {rest : List Value} (hs : g.stack = .int j :: .ref a :: rest) (hd : decode c.code g.pc = .ok (.laload, 1)) : ∀ t, Steps p.tables e below (T.setTop { g with pc := g.pc + 1, stack := v :: rest }) t → Steps p.tables e below (T.setTop g) t := by
  obtain ⟨cl, A, S, H⟩ := F
  subst hv
  exact X.laload hx (by rw [eT]; exact A.1) (State.isArrayOf_alike hZ.alike A.2.1) A.2.2 (by rw [S]; exact own_in hj hi) (by rw [own_idx hj]; exact H i hi) hg hs hd
theorem own_bald (X : Stand p l e R s m args below meth c T locs cells slots) (hx : p.tables.exec = Jvm.exec) (hZ : Z.Warmed39 s.vm) (eT : T.heap = h) (F : own_Ar Z h a .byte n f) {j : Int32} {i : Nat} {v : Value} (hj : j.toInt = i) (hi : i < n) (hv : f i = v)
    {g : JFrame} (hg : g.method = m) {rest : List Value} (hs : g.stack = .int j :: .ref a :: rest) (hd : decode c.code g.pc = .ok (.baload, 1)) : ∀ t, Steps p.tables e below (T.setTop { g with pc := g.pc + 1, stack := v :: rest }) t → Steps p.tables e below (T.setTop g) t := by
  obtain ⟨cl, A, S, H⟩ := F
  subst hv
  exact X.baloadBytes hx (by rw [eT]; exact A.1) (State.isArrayOf_alike hZ.alike A.2.1) A.2.2 (by rw [S]; exact own_in hj hi) (by rw [own_idx hj]; exact H i hi) hg hs hd
theorem own_zald (X : Stand p l e R s m args below meth c T locs cells slots) (hx : p.tables.exec = Jvm.exec) (hZ : Z.Warmed39 s.vm) (eT : T.heap = h) (F : own_Ar Z h a .boolean n f) {j : Int32} {i : Nat} {v : Value} (hj : j.toInt = i) (hi : i < n) (hv : f i = v)
    {g : JFrame} (hg : g.method = m) {rest : List Value} (hs : g.stack = .int j :: .ref a :: rest) (hd : decode c.code g.pc = .ok (.baload, 1)) : ∀ t, Steps p.tables e below (T.setTop { g with pc := g.pc + 1, stack := v :: rest }) t → Steps p.tables e below (T.setTop g) t := by
  obtain ⟨cl, A, S, H⟩ := F
  subst hv
  exact X.baloadBooleans hx (by rw [eT]; exact A.1) (State.isArrayOf_alike hZ.alike A.2.1) A.2.2 (by rw [S]; exact own_in hj hi) (by rw [own_idx hj]; exact H i hi) hg hs hd
theorem own_iast (X : Stand p l e R s m args below meth c T locs cells slots) (hx : p.tables.exec = Jvm.exec) (hZ : Z.Warmed39 s.vm) (eT : T.heap = h) (F : own_Ar Z h a .int n f) {j x : Int32} {i : Nat} (hj : j.toInt = i) (hi : i < n)
    {g : JFrame} (hg : g.method = m) {rest : List Value} (hs : g.stack = .int x :: .int j :: .ref a :: rest) (hd : decode c.code g.pc = .ok (.iastore, 1)) :
    ∃ T' h', Stand p l e R s m args below meth c T' (locs ++ [⟨a, i⟩]) cells slots ∧ T'.heap = h' ∧ Wr h h' a i (.int x) ∧ ∀ t, Steps p.tables e below (T'.setTop { g with pc := g.pc + 1, stack := rest }) t → Steps p.tables e below (T.setTop g) t := by
  obtain ⟨cl, A, S, H⟩ := F
  have r := stI X hx hZ eT A (j := j) (by rw [S]; exact own_in hj hi) hg hs hd
  rw [own_idx hj] at r
  exact r
theorem own_last (X : Stand p l e R s m args below meth c T locs cells slots) (hx : p.tables.exec = Jvm.exec) (hZ : Z.Warmed39 s.vm) (eT : T.heap = h) (F : own_Ar Z h a .long n f) {j : Int32} {x : Int64} {i : Nat} (hj : j.toInt = i) (hi : i < n)
    {g : JFrame} (hg : g.method = m) {rest : List Value} (hs : g.stack = .long x :: .int j :: .ref a :: rest) (hd : decode c.code g.pc = .ok (.lastore, 1)) :
    ∃ T' h', Stand p l e R s m args below meth c T' (locs ++ [⟨a, i⟩]) cells slots ∧ T'.heap = h' ∧ Wr h h' a i (.long x) ∧ ∀ t, Steps p.tables e below (T'.setTop { g with pc := g.pc + 1, stack := rest }) t → Steps p.tables e below (T.setTop g) t := by
  obtain ⟨cl, A, S, H⟩ := F
  have r := stJ X hx hZ eT A (j := j) (by rw [S]; exact own_in hj hi) hg hs hd
  rw [own_idx hj] at r
  exact r
theorem own_bast (X : Stand p l e R s m args below meth c T locs cells slots) (hx : p.tables.exec = Jvm.exec) (hZ : Z.Warmed39 s.vm) (eT : T.heap = h) (F : own_Ar Z h a .byte n f) {j x : Int32} {i : Nat} (hj : j.toInt = i) (hi : i < n)
    {g : JFrame} (hg : g.method = m) {rest : List Value} (hs : g.stack = .int x :: .int j :: .ref a :: rest) (hd : decode c.code g.pc = .ok (.bastore, 1)) :
    ∃ T' h', Stand p l e R s m args below meth c T' (locs ++ [⟨a, i⟩]) cells slots ∧ T'.heap = h' ∧ Wr h h' a i (.int (nar .byte x)) ∧ ∀ t, Steps p.tables e below (T'.setTop { g with pc := g.pc + 1, stack := rest }) t → Steps p.tables e below (T.setTop g) t := by
  obtain ⟨cl, A, S, H⟩ := F
  have r := stB X hx hZ eT A (j := j) (x := x) (by rw [S]; exact own_in hj hi) hg hs hd
  rw [own_idx hj] at r
  exact r
theorem own_zast (X : Stand p l e R s m args below meth c T locs cells slots) (hx : p.tables.exec = Jvm.exec) (hZ : Z.Warmed39 s.vm) (eT : T.heap = h) (F : own_Ar Z h a .boolean n f) {j x : Int32} {i : Nat} (hj : j.toInt = i) (hi : i < n)
    {g : JFrame} (hg : g.method = m) {rest : List Value} (hs : g.stack = .int x :: .int j :: .ref a :: rest) (hd : decode c.code g.pc = .ok (.bastore, 1)) :
    ∃ T' h', Stand p l e R s m args below meth c T' (locs ++ [⟨a, i⟩]) cells slots ∧ T'.heap = h' ∧ Wr h h' a i (.int (nar .boolean x)) ∧ ∀ t, Steps p.tables e below (T'.setTop { g with pc := g.pc + 1, stack := rest }) t → Steps p.tables e below (T.setTop g) t := by
  obtain ⟨cl, A, S, H⟩ := F
  have r := stZ X hx hZ eT A (j := j) (x := x) (by rw [S]; exact own_in hj hi) hg hs hd
  rw [own_idx hj] at r
  exact r
end Arrays
end Jvm.RoadKit
namespace Jvm.RoadKit
open Sem ClassFile Op Lib Jvm.Stand Jvm.Free Jvm.LawKit
section ArraysX
variable {p : Program} {l : Launch} {e : Env} {R : Room} {s : State} {m : MethodId} {args : Array Value} {below : List Frame} {meth : Method} {c : Code} {T : State} {locs : List Loc} {cells slots : Nat} {Z : State} {a0 : Array Value} {h h' : Heap} {a b : Addr} {ty : FieldType} {n : Nat} {f : Nat → Value}
/-- an int array of n places of which nothing else is said -/
def own_AI (Z : State) (h : Heap) (a : Addr) (n : Nat) : Prop := ∃ g : Nat → Int32, own_Ar Z h a .int n (fun i => .int (g i))
theorem own_AI.lt (F : own_AI Z h a n) : a < h.size := by obtain ⟨g, F⟩ := F; exact F.lt
theorem own_AI.ext (F : own_AI Z h a n) (E : Ext h h') : own_AI Z h' a n := by obtain ⟨g, F⟩ := F; exact ⟨g, F.ext E⟩
theorem own_AI.keep {ws : List Addr} (F : own_AI Z h a n) (K : Keep h h' ws) (q : a ∉ ws) : own_AI Z h' a n := by obtain ⟨g, F⟩ := F; exact ⟨g, F.keep K q⟩
theorem own_AI.other {sl : Nat} {v : Value} (F : own_AI Z h b n) (W : Wr h h' a sl v) (q : b ≠ a) : own_AI Z h' b n := by obtain ⟨g, F⟩ := F; exact ⟨g, F.other W q⟩
theorem own_AI.set {i : Nat} {v : Int32} (F : own_AI Z h a n) (W : Wr h h' a i (.int v)) : own_AI Z h' a n := by
  obtain ⟨g, F⟩ := F
  exact ⟨fun j => if j = i then v else g j, (F.set W).congr fun j _ => (apply_ite Value.int _ _ _).symm⟩
theorem own_AI.new {k : ClassId} {z : Int32} (A : Arr Z h a (newA k .int z) .int) : own_AI Z h a z.toNatClampNeg := ⟨fun _ => 0, own_Ar.new A⟩
end ArraysX
end Jvm.RoadKit
namespace Jvm.Pilot.@@N@@
open Jvm Jvm.ClassFile Sem Op Lib Jvm.Free Jvm.Stand Jvm.LawKit Jvm.RoadKit Bundle Jvm.Pilot.@@N@@.Jvm.D
/-! plain facts on ints and longs -/
theorem own_char16 (u : UInt16) : (u.toUInt32.toInt32).toInt = u.toNat := by
  have h := u.toNat_lt
  show BitVec.toInt u.toUInt32.toBitVec = _
  rw [BitVec.toInt_eq_toNat_of_lt (by simp; omega)]
  simp
theorem own_char (y : Int32) : 0 ≤ (y.toUInt32.toUInt16.toUInt32.toInt32).toInt ∧ (y.toUInt32.toUInt16.toUInt32.toInt32).toInt < 65536 := by
  rw [own_char16]
  have h := y.toUInt32.toUInt16.toNat_lt
  omega
theorem own_fin32 {P : Int32 → Prop} (n : Nat) (h : ∀ k : Fin n, P (Int32.ofNat k)) (c : Int32) (h0 : 0 ≤ c.toInt) (h1 : c.toInt < n) : P c := by
  have e : c = Int32.ofNat c.toInt.toNat := by
    apply Int32.toInt_inj.mp
    have hb := c.toInt_lt
    rw [Int32.toInt_ofNat_of_lt (by omega)]
    omega
  rw [e]
  exact h ⟨c.toInt.toNat, by omega⟩
theorem own_lt32 (x y : Int32) : (x < y) ↔ x.toInt < y.toInt := Int32.lt_iff_toInt_lt
theorem own_eq32 (x y : Int32) : (x = y) ↔ x.toInt = y.toInt := Int32.toInt_inj.symm
theorem own_lt64 (x y : Int64) : (x < y) ↔ x.toInt < y.toInt := Int64.lt_iff_toInt_lt
theorem own_eq64 (x y : Int64) : (x = y) ↔ x.toInt = y.toInt := Int64.toInt_inj.symm
theorem d2_0 : decode method_3_code 0 = .ok (.iload_n 0, 1) := by decide +kernel
theorem d2_1 : decode method_3_code 1 = .ok (.ifCond .lt 9, 3) := by decide +kernel
theorem d2_4 : decode method_3_code 4 = .ok (.iload_n 0, 1) := by decide +kernel
theorem d2_5 : decode method_3_code 5 = .ok (.ldc 13, 2) := by decide +kernel
theorem d2_7 : decode method_3_code 7 = .ok (.if_icmp .le 5, 3) := by decide +kernel
theorem d2_10 : decode method_3_code 10 = .ok (.iconst 0, 1) := by decide +kernel
theorem d2_11 : decode method_3_code 11 = .ok (.ireturn, 1) := by decide +kernel
theorem d2_12 : decode method_3_code 12 = .ok (.iload_n 0, 1) := by decide +kernel
theorem d2_13 : decode method_3_code 13 = .ok (.ldc 12, 2) := by decide +kernel
theorem d2_15 : decode method_3_code 15 = .ok (.if_icmp .lt 5, 3) := by decide +kernel
theorem d2_18 : decode method_3_code 18 = .ok (.iconst 1, 1) := by decide +kernel
theorem d2_19 : decode method_3_code 19 = .ok (.ireturn, 1) := by decide +kernel
theorem d2_20 : decode method_3_code 20 = .ok (.iload_n 0, 1) := by decide +kernel
theorem d2_21 : decode method_3_code 21 = .ok (.bipush 127, 2) := by decide +kernel
theorem d2_23 : decode method_3_code 23 = .ok (.if_icmp .gt 45, 3) := by decide +kernel
theorem d2_26 : decode method_3_code 26 = .ok (.iload_n 0, 1) := by decide +kernel
theorem d2_27 : decode method_3_code 27 = .ok (.bipush 58, 2) := by decide +kernel
theorem d2_29 : decode method_3_code 29 = .ok (.if_icmp .eq 33, 3) := by decide +kernel
theorem d2_32 : decode method_3_code 32 = .ok (.iload_n 0, 1) := by decide +kernel
theorem d2_33 : decode method_3_code 33 = .ok (.bipush 95, 2) := by decide +kernel
theorem d2_35 : decode method_3_code 35 = .ok (.if_icmp .eq 27, 3) := by decide +kernel
theorem d2_38 : decode method_3_code 38 = .ok (.iload_n 0, 1) := by decide +kernel
theorem d2_39 : decode method_3_code 39 = .ok (.bipush 65, 2) := by decide +kernel
theorem d2_41 : decode method_3_code 41 = .ok (.if_icmp .lt 9, 3) := by decide +kernel
theorem d2_44 : decode method_3_code 44 = .ok (.iload_n 0, 1) := by decide +kernel
theorem d2_45 : decode method_3_code 45 = .ok (.bipush 90, 2) := by decide +kernel
theorem d2_47 : decode method_3_code 47 = .ok (.if_icmp .le 15, 3) := by decide +kernel
theorem d2_50 : decode method_3_code 50 = .ok (.iload_n 0, 1) := by decide +kernel
theorem d2_51 : decode method_3_code 51 = .ok (.bipush 97, 2) := by decide +kernel
theorem d2_53 : decode method_3_code 53 = .ok (.if_icmp .lt 13, 3) := by decide +kernel
theorem d2_56 : decode method_3_code 56 = .ok (.iload_n 0, 1) := by decide +kernel
theorem d2_57 : decode method_3_code 57 = .ok (.bipush 122, 2) := by decide +kernel
theorem d2_59 : decode method_3_code 59 = .ok (.if_icmp .gt 7, 3) := by decide +kernel
theorem d2_62 : decode method_3_code 62 = .ok (.iconst 1, 1) := by decide +kernel
theorem d2_63 : decode method_3_code 63 = .ok (.goto 4, 3) := by decide +kernel
theorem d2_66 : decode method_3_code 66 = .ok (.iconst 0, 1) := by decide +kernel
theorem d2_67 : decode method_3_code 67 = .ok (.ireturn, 1) := by decide +kernel
theorem d2_68 : decode method_3_code 68 = .ok (.iload_n 0, 1) := by decide +kernel
theorem d2_69 : decode method_3_code 69 = .ok (.sipush 192, 3) := by decide +kernel
theorem d2_72 : decode method_3_code 72 = .ok (.if_icmp .ge 5, 3) := by decide +kernel
theorem d2_75 : decode method_3_code 75 = .ok (.iconst 0, 1) := by decide +kernel
theorem d2_76 : decode method_3_code 76 = .ok (.ireturn, 1) := by decide +kernel
theorem d2_77 : decode method_3_code 77 = .ok (.iload_n 0, 1) := by decide +kernel
theorem d2_78 : decode method_3_code 78 = .ok (.sipush 215, 3) := by decide +kernel
theorem d2_81 : decode method_3_code 81 = .ok (.if_icmp .eq 10, 3) := by decide +kernel
theorem d2_84 : decode method_3_code 84 = .ok (.iload_n 0, 1) := by decide +kernel
theorem d2_85 : decode method_3_code 85 = .ok (.sipush 247, 3) := by decide +kernel
theorem d2_88 : decode method_3_code 88 = .ok (.if_icmp .ne 5, 3) := by decide +kernel
theorem d2_91 : decode method_3_code 91 = .ok (.iconst 0, 1) := by decide +kernel
theorem d2_92 : decode method_3_code 92 = .ok (.ireturn, 1) := by decide +kernel
theorem d2_93 : decode method_3_code 93 = .ok (.iload_n 0, 1) := by decide +kernel
theorem d2_94 : decode method_3_code 94 = .ok (.sipush 768, 3) := by decide +kernel
theorem d2_97 : decode method_3_code 97 = .ok (.if_icmp .ge 5, 3) := by decide +kernel
theorem d2_100 : decode method_3_code 100 = .ok (.iconst 1, 1) := by decide +kernel
theorem d2_101 : decode method_3_code 101 = .ok (.ireturn, 1) := by decide +kernel
theorem d2_102 : decode method_3_code 102 = .ok (.iload_n 0, 1) := by decide +kernel
theorem d2_103 : decode method_3_code 103 = .ok (.sipush 880, 3) := by decide +kernel
theorem d2_106 : decode method_3_code 106 = .ok (.if_icmp .ge 5, 3) := by decide +kernel
theorem d2_109 : decode method_3_code 109 = .ok (.iconst 0, 1) := by decide +kernel
theorem d2_110 : decode method_3_code 110 = .ok (.ireturn, 1) := by decide +kernel
theorem d2_111 : decode method_3_code 111 = .ok (.iload_n 0, 1) := by decide +kernel
theorem d2_112 : decode method_3_code 112 = .ok (.sipush 894, 3) := by decide +kernel
theorem d2_115 : decode method_3_code 115 = .ok (.if_icmp .ne 5, 3) := by decide +kernel
theorem d2_118 : decode method_3_code 118 = .ok (.iconst 0, 1) := by decide +kernel
theorem d2_119 : decode method_3_code 119 = .ok (.ireturn, 1) := by decide +kernel
theorem d2_120 : decode method_3_code 120 = .ok (.iload_n 0, 1) := by decide +kernel
theorem d2_121 : decode method_3_code 121 = .ok (.sipush 8192, 3) := by decide +kernel
theorem d2_124 : decode method_3_code 124 = .ok (.if_icmp .ge 5, 3) := by decide +kernel
theorem d2_127 : decode method_3_code 127 = .ok (.iconst 1, 1) := by decide +kernel
theorem d2_128 : decode method_3_code 128 = .ok (.ireturn, 1) := by decide +kernel
theorem d2_129 : decode method_3_code 129 = .ok (.iload_n 0, 1) := by decide +kernel
theorem d2_130 : decode method_3_code 130 = .ok (.sipush 8204, 3) := by decide +kernel
theorem d2_133 : decode method_3_code 133 = .ok (.if_icmp .eq 10, 3) := by decide +kernel
theorem d2_136 : decode method_3_code 136 = .ok (.iload_n 0, 1) := by decide +kernel
theorem d2_137 : decode method_3_code 137 = .ok (.sipush 8205, 3) := by decide +kernel
theorem d2_140 : decode method_3_code 140 = .ok (.if_icmp .ne 5, 3) := by decide +kernel
theorem d2_143 : decode method_3_code 143 = .ok (.iconst 1, 1) := by decide +kernel
theorem d2_144 : decode method_3_code 144 = .ok (.ireturn, 1) := by decide +kernel
theorem d2_145 : decode method_3_code 145 = .ok (.iload_n 0, 1) := by decide +kernel
theorem d2_146 : decode method_3_code 146 = .ok (.sipush 8304, 3) := by decide +kernel
theorem d2_149 : decode method_3_code 149 = .ok (.if_icmp .ge 5, 3) := by decide +kernel
theorem d2_152 : decode method_3_code 152 = .ok (.iconst 0, 1) := by decide +kernel
theorem d2_153 : decode method_3_code 153 = .ok (.ireturn, 1) := by decide +kernel
theorem d2_154 : decode method_3_code 154 = .ok (.iload_n 0, 1) := by decide +kernel
theorem d2_155 : decode method_3_code 155 = .ok (.sipush 8592, 3) := by decide +kernel
theorem d2_158 : decode method_3_code 158 = .ok (.if_icmp .ge 5, 3) := by decide +kernel
theorem d2_161 : decode method_3_code 161 = .ok (.iconst 1, 1) := by decide +kernel
theorem d2_162 : decode method_3_code 162 = .ok (.ireturn, 1) := by decide +kernel
theorem d2_163 : decode method_3_code 163 = .ok (.iload_n 0, 1) := by decide +kernel
theorem d2_164 : decode method_3_code 164 = .ok (.sipush 11264, 3) := by decide +kernel
theorem d2_167 : decode method_3_code 167 = .ok (.if_icmp .ge 5, 3) := by decide +kernel
theorem d2_170 : decode method_3_code 170 = .ok (.iconst 0, 1) := by decide +kernel
theorem d2_171 : decode method_3_code 171 = .ok (.ireturn, 1) := by decide +kernel
theorem d2_172 : decode method_3_code 172 = .ok (.iload_n 0, 1) := by decide +kernel
theorem d2_173 : decode method_3_code 173 = .ok (.sipush 12272, 3) := by decide +kernel
theorem d2_176 : decode method_3_code 176 = .ok (.if_icmp .ge 5, 3) := by decide +kernel
theorem d2_179 : decode method_3_code 179 = .ok (.iconst 1, 1) := by decide +kernel
theorem d2_180 : decode method_3_code 180 = .ok (.ireturn, 1) := by decide +kernel
theorem d2_181 : decode method_3_code 181 = .ok (.iload_n 0, 1) := by decide +kernel
theorem d2_182 : decode method_3_code 182 = .ok (.sipush 12288, 3) := by decide +kernel
theorem d2_185 : decode method_3_code 185 = .ok (.if_icmp .gt 5, 3) := by decide +kernel
theorem d2_188 : decode method_3_code 188 = .ok (.iconst 0, 1) := by decide +kernel
theorem d2_189 : decode method_3_code 189 = .ok (.ireturn, 1) := by decide +kernel
theorem d2_190 : decode method_3_code 190 = .ok (.iload_n 0, 1) := by decide +kernel
theorem d2_191 : decode method_3_code 191 = .ok (.ldc 31, 2) := by decide +kernel
theorem d2_193 : decode method_3_code 193 = .ok (.if_icmp .ge 5, 3) := by decide +kernel
theorem d2_196 : decode method_3_code 196 = .ok (.iconst 1, 1) := by decide +kernel
theorem d2_197 : decode method_3_code 197 = .ok (.ireturn, 1) := by decide +kernel
theorem d2_198 : decode method_3_code 198 = .ok (.iload_n 0, 1) := by decide +kernel
theorem d2_199 : decode method_3_code 199 = .ok (.ldc 8, 2) := by decide +kernel
theorem d2_201 : decode method_3_code 201 = .ok (.if_icmp .ge 5, 3) := by decide +kernel
theorem d2_204 : decode method_3_code 204 = .ok (.iconst 0, 1) := by decide +kernel
theorem d2_205 : decode method_3_code 205 = .ok (.ireturn, 1) := by decide +kernel
theorem d2_206 : decode method_3_code 206 = .ok (.iload_n 0, 1) := by decide +kernel
theorem d2_207 : decode method_3_code 207 = .ok (.ldc 32, 2) := by decide +kernel
theorem d2_209 : decode method_3_code 209 = .ok (.if_icmp .ge 5, 3) := by decide +kernel
theorem d2_212 : decode method_3_code 212 = .ok (.iconst 1, 1) := by decide +kernel
theorem d2_213 : decode method_3_code 213 = .ok (.ireturn, 1) := by decide +kernel
theorem d2_214 : decode method_3_code 214 = .ok (.iload_n 0, 1) := by decide +kernel
theorem d2_215 : decode method_3_code 215 = .ok (.ldc 10, 2) := by decide +kernel
theorem d2_217 : decode method_3_code 217 = .ok (.if_icmp .ge 5, 3) := by decide +kernel
theorem d2_220 : decode method_3_code 220 = .ok (.iconst 0, 1) := by decide +kernel
theorem d2_221 : decode method_3_code 221 = .ok (.ireturn, 1) := by decide +kernel
theorem d2_222 : decode method_3_code 222 = .ok (.iload_n 0, 1) := by decide +kernel
theorem d2_223 : decode method_3_code 223 = .ok (.ldc 11, 2) := by decide +kernel
theorem d2_225 : decode method_3_code 225 = .ok (.if_icmp .gt 7, 3) := by decide +kernel
theorem d2_228 : decode method_3_code 228 = .ok (.iconst 1, 1) := by decide +kernel
theorem d2_229 : decode method_3_code 229 = .ok (.goto 4, 3) := by decide +kernel
theorem d2_232 : decode method_3_code 232 = .ok (.iconst 0, 1) := by decide +kernel
theorem d2_233 : decode method_3_code 233 = .ok (.ireturn, 1) := by decide +kernel
theorem pn_2 : plainName "com/example/arbora/arbora/XmlSyntaxIsNameStartCharPinLaw" = true := by first | (simp [plainName, overriddenIn]; done) | decide +kernel
theorem pd_2 : parseMethodDescriptor "(I)Z" = some ⟨[.int], (some .boolean)⟩ := by decide +kernel
theorem ef_2 (m : MethodId) (x0 : Int32) : entryFrame m #[(.int x0)] 1 = mkF m 0 #[.val (.int x0)] [] := by first | (simp [entryFrame, mkF, argsToLocals, Value.category]; done) | rfl
def own_f2_at232 (x0 : Int32) : Int32 := (0 : Int32)
def own_f2_at222 (x0 : Int32) : Int32 := (if (65533 : Int32) < x0 then (own_f2_at232 x0) else (1 : Int32))
def own_f2_at214 (x0 : Int32) : Int32 := (if x0 < (65008 : Int32) then (0 : Int32) else (own_f2_at222 x0))
def own_f2_at206 (x0 : Int32) : Int32 := (if x0 < (64976 : Int32) then (1 : Int32) else (own_f2_at214 x0))
def own_f2_at198 (x0 : Int32) : Int32 := (if x0 < (63744 : Int32) then (0 : Int32) else (own_f2_at206 x0))
def own_f2_at190 (x0 : Int32) : Int32 := (if x0 < (55296 : Int32) then (1 : Int32) else (own_f2_at198 x0))
def own_f2_at181 (x0 : Int32) : Int32 := (if (12288 : Int32) < x0 then (own_f2_at190 x0) else (0 : Int32))
def own_f2_at172 (x0 : Int32) : Int32 := (if x0 < (12272 : Int32) then (1 : Int32) else (own_f2_at181 x0))
def own_f2_at163 (x0 : Int32) : Int32 := (if x0 < (11264 : Int32) then (0 : Int32) else (own_f2_at172 x0))
def own_f2_at154 (x0 : Int32) : Int32 := (if x0 < (8592 : Int32) then (1 : Int32) else (own_f2_at163 x0))
def own_f2_at145 (x0 : Int32) : Int32 := (if x0 < (8304 : Int32) then (0 : Int32) else (own_f2_at154 x0))
def own_f2_at143 (x0 : Int32) : Int32 := (1 : Int32)
def own_f2_at129 (x0 : Int32) : Int32 := (if x0 = (8204 : Int32) then (own_f2_at143 x0) else (if x0 = (8205 : Int32) then (own_f2_at143 x0) else (own_f2_at145 x0)))
def own_f2_at120 (x0 : Int32) : Int32 := (if x0 < (8192 : Int32) then (1 : Int32) else (own_f2_at129 x0))
def own_f2_at111 (x0 : Int32) : Int32 := (if x0 = (894 : Int32) then (0 : Int32) else (own_f2_at120 x0))
def own_f2_at102 (x0 : Int32) : Int32 := (if x0 < (880 : Int32) then (0 : Int32) else (own_f2_at111 x0))
def own_f2_at93 (x0 : Int32) : Int32 := (if x0 < (768 : Int32) then (1 : Int32) else (own_f2_at102 x0))
def own_f2_at91 (x0 : Int32) : Int32 := (0 : Int32)
def own_f2_at77 (x0 : Int32) : Int32 := (if x0 = (215 : Int32) then (own_f2_at91 x0) else (if x0 = (247 : Int32) then (own_f2_at91 x0) else (own_f2_at93 x0)))
def own_f2_at68 (x0 : Int32) : Int32 := (if x0 < (192 : Int32) then (0 : Int32) else (own_f2_at77 x0))
def own_f2_at66 (x0 : Int32) : Int32 := (0 : Int32)
def own_f2_at62 (x0 : Int32) : Int32 := (1 : Int32)
def own_f2_at50 (x0 : Int32) : Int32 := (if x0 < (97 : Int32) then (own_f2_at66 x0) else (if (122 : Int32) < x0 then (own_f2_at66 x0) else (own_f2_at62 x0)))
def own_f2_at20 (x0 : Int32) : Int32 := (if (127 : Int32) < x0 then (own_f2_at68 x0) else (if x0 = (58 : Int32) then (own_f2_at62 x0) else (if x0 = (95 : Int32) then (own_f2_at62 x0) else (if x0 < (65 : Int32) then (own_f2_at50 x0) else (if (90 : Int32) < x0 then (own_f2_at50 x0) else (own_f2_at62 x0))))))
def own_f2_at12 (x0 : Int32) : Int32 := (if x0 < (65536 : Int32) then (own_f2_at20 x0) else (1 : Int32))
def own_f2_at10 (x0 : Int32) : Int32 := (0 : Int32)
def own_f2 (x0 : Int32) : Int32 := (if x0 < (0 : Int32) then (own_f2_at10 x0) else (if (983039 : Int32) < x0 then (own_f2_at10 x0) else (own_f2_at12 x0)))
def own_F2 (Z : State) (x0 : Int32)  (h0 : Heap) (v : Option Value) (h : Heap) (L : List Loc) : Prop := v = some (.int (own_f2 x0)) ∧ L = [] ∧ h = h0
set_option maxRecDepth 65536 in
set_option maxHeartbeats 40000000 in
theorem own_m2 (l : Launch) (Z : State) (a0 : Array Value) (hw : ∀ d ∈ tables_1, d.before a0 Z = true) (ws : List Jvm.Cond) (x0 : Int32)  (h0 : Heap)   :
    MetFree l (⟨"com/example/arbora/arbora/XmlSyntaxIsNameStartCharPinLaw", "ref", "(I)Z"⟩ : MethodName) (head1 (Jvm.Cond.code (⟨"com/example/arbora/arbora/XmlSyntaxIsNameStartCharPinLaw", "ref", "(I)Z"⟩ : MethodName) method_3_code 1 (some .boolean) :: ws) ({ frames := 0, cells := 0, slots := 0, locals := 0 } : Room)) (fun a U => a = #[(.int x0)] ∧ Z.Warmed39 U.vm ∧ U.heap = h0) (fun _ _ _ _ _ => True) (fun _ U o U' => ∃ v L, o = .returned v ∧ own_F2 Z x0 h0 v U'.heap L ∧ FrameEnd U o U' L ({ frames := 0, cells := 0, slots := 0, locals := 0 } : Room).cells ({ frames := 0, cells := 0, slots := 0, locals := 0 } : Room).slots) := by
  refine MetFree.of_bodySF (plainFor_of_name pn_2) hisR ?_
  intro p e s m args below meth c s₁ Bd hml0 hP hK
  obtain ⟨rfl, hZ, hh⟩ := hP
  have hx := Bd.exec
  have hby := Bd.bytes
  have hml : c.maxLocals = 1 := hml0
  have hown : s.vm.findClass "com/example/arbora/arbora/XmlSyntaxIsNameStartCharPinLaw" = some m.cls := findClass_of_methodNamed Bd.named
  have hnm := (name_of_methodNamed Bd.named Bd.method).1
  have X0 : Stand p l e ({ frames := 0, cells := 0, slots := 0, locals := 0 } : Room) s m #[(.int x0)] below meth c s₁ [] 0 0 := Stand.of_body Bd
  have e0 : s₁.heap = h0 := by rw [← hh, Bd.state]; rfl
  have hgo : own_Goes p e below s (own_F2 Z x0 h0) 0 0 (s₁.setTop (mkF m 0 #[.val (.int x0)] [])) := by
    have J1232 : own_f2 x0 = own_f2_at232 x0 → own_Goes p e below s (own_F2 Z x0 h0) 0 0 (s₁.setTop (mkF m 232 #[.val (.int x0)] [])) := by
      intro hj232
      refine own_Goes.step (fun t k => XT.iconstV X0.here hx rfl (0 : Int32) (hb hby d2_232) (by decide) k) ?_
      show own_Goes p e below s (own_F2 Z x0 h0) 0 0 (s₁.setTop (mkF m 233 #[.val (.int x0)] [(.int (0 : Int32))]))
      exact own_endN X0 hx Bd.notSynchronized (t := .boolean) Bd.returns (by simp) (hb hby d2_233) ⟨(congrArg (fun z => some (Value.int z)) (show (0 : Int32) = own_f2 x0 from by rw [hj232]; simp only [own_f2_at232])), rfl, e0⟩ (by decide) (by decide)
    have J1222 : own_f2 x0 = own_f2_at222 x0 → own_Goes p e below s (own_F2 Z x0 h0) 0 0 (s₁.setTop (mkF m 222 #[.val (.int x0)] [])) := by
      intro hj222
      refine own_Goes.step (fun t k => XS.iloadN X0.here hx rfl (hb hby d2_222) rfl k) ?_
      show own_Goes p e below s (own_F2 Z x0 h0) 0 0 (s₁.setTop (mkF m 223 #[.val (.int x0)] [(.int x0)]))
      refine own_Goes.step (fun t k => X0.ldcI hx hown (mvT hZ (hw _ (List.mem_of_getElem? (i := 5) rfl))) rfl (hb hby d2_223) k) ?_
      show own_Goes p e below s (own_F2 Z x0 h0) 0 0 (s₁.setTop (mkF m 225 #[.val (.int x0)] [(.int (65533 : Int32)), (.int x0)]))
      by_cases hc1 : (65533 : Int32) < x0
      · refine own_Goes.step (fun t k => XS.icmpYes X0.here hx rfl (pc0 := 225) (pc' := 232) rfl (hb hby d2_225) rfl (XT.ii_gt_t hc1) (by decide) (by decide) k) ?_
        show own_Goes p e below s (own_F2 Z x0 h0) 0 0 (s₁.setTop (mkF m 232 #[.val (.int x0)] []))
        exact J1232 (by rw [hj222]; simp only [own_f2_at222, if_pos hc1])
      · refine own_Goes.step (fun t k => XS.icmpNo X0.here hx rfl (hb hby d2_225) rfl (XT.ii_gt_f hc1) k) ?_
        show own_Goes p e below s (own_F2 Z x0 h0) 0 0 (s₁.setTop (mkF m 228 #[.val (.int x0)] []))
        refine own_Goes.step (fun t k => XT.iconstV X0.here hx rfl (1 : Int32) (hb hby d2_228) (by decide) k) ?_
        show own_Goes p e below s (own_F2 Z x0 h0) 0 0 (s₁.setTop (mkF m 229 #[.val (.int x0)] [(.int (1 : Int32))]))
        refine own_Goes.step (fun t k => XS.goto X0.here hx rfl (pc0 := 229) (pc' := 233) rfl (hb hby d2_229) (by decide) (by decide) k) ?_
        show own_Goes p e below s (own_F2 Z x0 h0) 0 0 (s₁.setTop (mkF m 233 #[.val (.int x0)] [(.int (1 : Int32))]))
        exact own_endN X0 hx Bd.notSynchronized (t := .boolean) Bd.returns (by simp) (hb hby d2_233) ⟨(congrArg (fun z => some (Value.int z)) (show (1 : Int32) = own_f2 x0 from by rw [hj222]; simp only [own_f2_at222, if_neg hc1])), rfl, e0⟩ (by decide) (by decide)
    have J1214 : own_f2 x0 = own_f2_at214 x0 → own_Goes p e below s (own_F2 Z x0 h0) 0 0 (s₁.setTop (mkF m 214 #[.val (.int x0)] [])) := by
      intro hj214
      refine own_Goes.step (fun t k => XS.iloadN X0.here hx rfl (hb hby d2_214) rfl k) ?_
      show own_Goes p e below s (own_F2 Z x0 h0) 0 0 (s₁.setTop (mkF m 215 #[.val (.int x0)] [(.int x0)]))
      refine own_Goes.step (fun t k => X0.ldcI hx hown (mvT hZ (hw _ (List.mem_of_getElem? (i := 4) rfl))) rfl (hb hby d2_215) k) ?_
      show own_Goes p e below s (own_F2 Z x0 h0) 0 0 (s₁.setTop (mkF m 217 #[.val (.int x0)] [(.int (65008 : Int32)), (.int x0)]))
      by_cases hc2 : x0 < (65008 : Int32)
      · refine own_Goes.step (fun t k => XS.icmpNo X0.here hx rfl (hb hby d2_217) rfl (XT.ii_ge_f hc2) k) ?_
        show own_Goes p e below s (own_F2 Z x0 h0) 0 0 (s₁.setTop (mkF m 220 #[.val (.int x0)] []))
        refine own_Goes.step (fun t k => XT.iconstV X0.here hx rfl (0 : Int32) (hb hby d2_220) (by decide) k) ?_
        show own_Goes p e below s (own_F2 Z x0 h0) 0 0 (s₁.setTop (mkF m 221 #[.val (.int x0)] [(.int (0 : Int32))]))
        exact own_endN X0 hx Bd.notSynchronized (t := .boolean) Bd.returns (by simp) (hb hby d2_221) ⟨(congrArg (fun z => some (Value.int z)) (show (0 : Int32) = own_f2 x0 from by rw [hj214]; simp only [own_f2_at214, if_pos hc2])), rfl, e0⟩ (by decide) (by decide)
      · refine own_Goes.step (fun t k => XS.icmpYes X0.here hx rfl (pc0 := 217) (pc' := 222) rfl (hb hby d2_217) rfl (XT.ii_ge_t hc2) (by decide) (by decide) k) ?_
        show own_Goes p e below s (own_F2 Z x0 h0) 0 0 (s₁.setTop (mkF m 222 #[.val (.int x0)] []))
        exact J1222 (by rw [hj214]; simp only [own_f2_at214, if_neg hc2])
    have J1206 : own_f2 x0 = own_f2_at206 x0 → own_Goes p e below s (own_F2 Z x0 h0) 0 0 (s₁.setTop (mkF m 206 #[.val (.int x0)] [])) := by
      intro hj206
      refine own_Goes.step (fun t k => XS.iloadN X0.here hx rfl (hb hby d2_206) rfl k) ?_
      show own_Goes p e below s (own_F2 Z x0 h0) 0 0 (s₁.setTop (mkF m 207 #[.val (.int x0)] [(.int x0)]))
      refine own_Goes.step (fun t k => X0.ldcI hx hown (mvT hZ (hw _ (List.mem_of_getElem? (i := 28) rfl))) rfl (hb hby d2_207) k) ?_
      show own_Goes p e below s (own_F2 Z x0 h0) 0 0 (s₁.setTop (mkF m 209 #[.val (.int x0)] [(.int (64976 : Int32)), (.int x0)]))
      by_cases hc3 : x0 < (64976 : Int32)
      · refine own_Goes.step (fun t k => XS.icmpNo X0.here hx rfl (hb hby d2_209) rfl (XT.ii_ge_f hc3) k) ?_
        show own_Goes p e below s (own_F2 Z x0 h0) 0 0 (s₁.setTop (mkF m 212 #[.val (.int x0)] []))
        refine own_Goes.step (fun t k => XT.iconstV X0.here hx rfl (1 : Int32) (hb hby d2_212) (by decide) k) ?_
        show own_Goes p e below s (own_F2 Z x0 h0) 0 0 (s₁.setTop (mkF m 213 #[.val (.int x0)] [(.int (1 : Int32))]))
        exact own_endN X0 hx Bd.notSynchronized (t := .boolean) Bd.returns (by simp) (hb hby d2_213) ⟨(congrArg (fun z => some (Value.int z)) (show (1 : Int32) = own_f2 x0 from by rw [hj206]; simp only [own_f2_at206, if_pos hc3])), rfl, e0⟩ (by decide) (by decide)
      · refine own_Goes.step (fun t k => XS.icmpYes X0.here hx rfl (pc0 := 209) (pc' := 214) rfl (hb hby d2_209) rfl (XT.ii_ge_t hc3) (by decide) (by decide) k) ?_
        show own_Goes p e below s (own_F2 Z x0 h0) 0 0 (s₁.setTop (mkF m 214 #[.val (.int x0)] []))
        exact J1214 (by rw [hj206]; simp only [own_f2_at206, if_neg hc3])
    have J1198 : own_f2 x0 = own_f2_at198 x0 → own_Goes p e below s (own_F2 Z x0 h0) 0 0 (s₁.setTop (mkF m 198 #[.val (.int x0)] [])) := by
      intro hj198
      refine own_Goes.step (fun t k => XS.iloadN X0.here hx rfl (hb hby d2_198) rfl k) ?_
      show own_Goes p e below s (own_F2 Z x0 h0) 0 0 (s₁.setTop (mkF m 199 #[.val (.int x0)] [(.int x0)]))
      refine own_Goes.step (fun t k => X0.ldcI hx hown (mvT hZ (hw _ (List.mem_of_getElem? (i := 2) rfl))) rfl (hb hby d2_199) k) ?_
      show own_Goes p e below s (own_F2 Z x0 h0) 0 0 (s₁.setTop (mkF m 201 #[.val (.int x0)] [(.int (63744 : Int32)), (.int x0)]))
      by_cases hc4 : x0 < (63744 : Int32)
      · refine own_Goes.step (fun t k => XS.icmpNo X0.here hx rfl (hb hby d2_201) rfl (XT.ii_ge_f hc4) k) ?_
        show own_Goes p e below s (own_F2 Z x0 h0) 0 0 (s₁.setTop (mkF m 204 #[.val (.int x0)] []))
        refine own_Goes.step (fun t k => XT.iconstV X0.here hx rfl (0 : Int32) (hb hby d2_204) (by decide) k) ?_
        show own_Goes p e below s (own_F2 Z x0 h0) 0 0 (s₁.setTop (mkF m 205 #[.val (.int x0)] [(.int (0 : Int32))]))
        exact own_endN X0 hx Bd.notSynchronized (t := .boolean) Bd.returns (by simp) (hb hby d2_205) ⟨(congrArg (fun z => some (Value.int z)) (show (0 : Int32) = own_f2 x0 from by rw [hj198]; simp only [own_f2_at198, if_pos hc4])), rfl, e0⟩ (by decide) (by decide)
      · refine own_Goes.step (fun t k => XS.icmpYes X0.here hx rfl (pc0 := 201) (pc' := 206) rfl (hb hby d2_201) rfl (XT.ii_ge_t hc4) (by decide) (by decide) k) ?_
        show own_Goes p e below s (own_F2 Z x0 h0) 0 0 (s₁.setTop (mkF m 206 #[.val (.int x0)] []))
        exact J1206 (by rw [hj198]; simp only [own_f2_at198, if_neg hc4])
    have J1190 : own_f2 x0 = own_f2_at190 x0 → own_Goes p e below s (own_F2 Z x0 h0) 0 0 (s₁.setTop (mkF m 190 #[.val (.int x0)] [])) := by
      intro hj190
      refine own_Goes.step (fun t k => XS.iloadN X0.here hx rfl (hb hby d2_190) rfl k) ?_
      show own_Goes p e below s (own_F2 Z x0 h0) 0 0 (s₁.setTop (mkF m 191 #[.val (.int x0)] [(.int x0)]))
      refine own_Goes.step (fun t k => X0.ldcI hx hown (mvT hZ (hw _ (List.mem_of_getElem? (i := 27) rfl))) rfl (hb hby d2_191) k) ?_
      show own_Goes p e below s (own_F2 Z x0 h0) 0 0 (s₁.setTop (mkF m 193 #[.val (.int x0)] [(.int (55296 : Int32)), (.int x0)]))
      by_cases hc5 : x0 < (55296 : Int32)
      · refine own_Goes.step (fun t k => XS.icmpNo X0.here hx rfl (hb hby d2_193) rfl (XT.ii_ge_f hc5) k) ?_
        show own_Goes p e below s (own_F2 Z x0 h0) 0 0 (s₁.setTop (mkF m 196 #[.val (.int x0)] []))
        refine own_Goes.step (fun t k => XT.iconstV X0.here hx rfl (1 : Int32) (hb hby d2_196) (by decide) k) ?_
        show own_Goes p e below s (own_F2 Z x0 h0) 0 0 (s₁.setTop (mkF m 197 #[.val (.int x0)] [(.int (1 : Int32))]))
        exact own_endN X0 hx Bd.notSynchronized (t := .boolean) Bd.returns (by simp) (hb hby d2_197) ⟨(congrArg (fun z => some (Value.int z)) (show (1 : Int32) = own_f2 x0 from by rw [hj190]; simp only [own_f2_at190, if_pos hc5])), rfl, e0⟩ (by decide) (by decide)
      · refine own_Goes.step (fun t k => XS.icmpYes X0.here hx rfl (pc0 := 193) (pc' := 198) rfl (hb hby d2_193) rfl (XT.ii_ge_t hc5) (by decide) (by decide) k) ?_
        show own_Goes p e below s (own_F2 Z x0 h0) 0 0 (s₁.setTop (mkF m 198 #[.val (.int x0)] []))
        exact J1198 (by rw [hj190]; simp only [own_f2_at190, if_neg hc5])
    have J1181 : own_f2 x0 = own_f2_at181 x0 → own_Goes p e below s (own_F2 Z x0 h0) 0 0 (s₁.setTop (mkF m 181 #[.val (.int x0)] [])) := by
      intro hj181
      refine own_Goes.step (fun t k => XS.iloadN X0.here hx rfl (hb hby d2_181) rfl k) ?_
      show own_Goes p e below s (own_F2 Z x0 h0) 0 0 (s₁.setTop (mkF m 182 #[.val (.int x0)] [(.int x0)]))
      refine own_Goes.step (fun t k => XT.sipushV X0.here hx rfl (12288 : Int32) (hb hby d2_182) (by decide) k) ?_
      show own_Goes p e below s (own_F2 Z x0 h0) 0 0 (s₁.setTop (mkF m 185 #[.val (.int x0)] [(.int (12288 : Int32)), (.int x0)]))
      by_cases hc6 : (12288 : Int32) < x0
      · refine own_Goes.step (fun t k => XS.icmpYes X0.here hx rfl (pc0 := 185) (pc' := 190) rfl (hb hby d2_185) rfl (XT.ii_gt_t hc6) (by decide) (by decide) k) ?_
        show own_Goes p e below s (own_F2 Z x0 h0) 0 0 (s₁.setTop (mkF m 190 #[.val (.int x0)] []))
        exact J1190 (by rw [hj181]; simp only [own_f2_at181, if_pos hc6])
      · refine own_Goes.step (fun t k => XS.icmpNo X0.here hx rfl (hb hby d2_185) rfl (XT.ii_gt_f hc6) k) ?_
        show own_Goes p e below s (own_F2 Z x0 h0) 0 0 (s₁.setTop (mkF m 188 #[.val (.int x0)] []))
        refine own_Goes.step (fun t k => XT.iconstV X0.here hx rfl (0 : Int32) (hb hby d2_188) (by decide) k) ?_
        show own_Goes p e below s (own_F2 Z x0 h0) 0 0 (s₁.setTop (mkF m 189 #[.val (.int x0)] [(.int (0 : Int32))]))
        exact own_endN X0 hx Bd.notSynchronized (t := .boolean) Bd.returns (by simp) (hb hby d2_189) ⟨(congrArg (fun z => some (Value.int z)) (show (0 : Int32) = own_f2 x0 from by rw [hj181]; simp only [own_f2_at181, if_neg hc6])), rfl, e0⟩ (by decide) (by decide)
    have J1172 : own_f2 x0 = own_f2_at172 x0 → own_Goes p e below s (own_F2 Z x0 h0) 0 0 (s₁.setTop (mkF m 172 #[.val (.int x0)] [])) := by
      intro hj172
      refine own_Goes.step (fun t k => XS.iloadN X0.here hx rfl (hb hby d2_172) rfl k) ?_
      show own_Goes p e below s (own_F2 Z x0 h0) 0 0 (s₁.setTop (mkF m 173 #[.val (.int x0)] [(.int x0)]))
      refine own_Goes.step (fun t k => XT.sipushV X0.here hx rfl (12272 : Int32) (hb hby d2_173) (by decide) k) ?_
      show own_Goes p e below s (own_F2 Z x0 h0) 0 0 (s₁.setTop (mkF m 176 #[.val (.int x0)] [(.int (12272 : Int32)), (.int x0)]))
      by_cases hc7 : x0 < (12272 : Int32)
      · refine own_Goes.step (fun t k => XS.icmpNo X0.here hx rfl (hb hby d2_176) rfl (XT.ii_ge_f hc7) k) ?_
        show own_Goes p e below s (own_F2 Z x0 h0) 0 0 (s₁.setTop (mkF m 179 #[.val (.int x0)] []))
        refine own_Goes.step (fun t k => XT.iconstV X0.here hx rfl (1 : Int32) (hb hby d2_179) (by decide) k) ?_
        show own_Goes p e below s (own_F2 Z x0 h0) 0 0 (s₁.setTop (mkF m 180 #[.val (.int x0)] [(.int (1 : Int32))]))
        exact own_endN X0 hx Bd.notSynchronized (t := .boolean) Bd.returns (by simp) (hb hby d2_180) ⟨(congrArg (fun z => some (Value.int z)) (show (1 : Int32) = own_f2 x0 from by rw [hj172]; simp only [own_f2_at172, if_pos hc7])), rfl, e0⟩ (by decide) (by decide)
      · refine own_Goes.step (fun t k => XS.icmpYes X0.here hx rfl (pc0 := 176) (pc' := 181) rfl (hb hby d2_176) rfl (XT.ii_ge_t hc7) (by decide) (by decide) k) ?_
        show own_Goes p e below s (own_F2 Z x0 h0) 0 0 (s₁.setTop (mkF m 181 #[.val (.int x0)] []))
        exact J1181 (by rw [hj172]; simp only [own_f2_at172, if_neg hc7])
    have J1163 : own_f2 x0 = own_f2_at163 x0 → own_Goes p e below s (own_F2 Z x0 h0) 0 0 (s₁.setTop (mkF m 163 #[.val (.int x0)] [])) := by
      intro hj163
      refine own_Goes.step (fun t k => XS.iloadN X0.here hx rfl (hb hby d2_163) rfl k) ?_
      show own_Goes p e below s (own_F2 Z x0 h0) 0 0 (s₁.setTop (mkF m 164 #[.val (.int x0)] [(.int x0)]))
      refine own_Goes.step (fun t k => XT.sipushV X0.here hx rfl (11264 : Int32) (hb hby d2_164) (by decide) k) ?_
      show own_Goes p e below s (own_F2 Z x0 h0) 0 0 (s₁.setTop (mkF m 167 #[.val (.int x0)] [(.int (11264 : Int32)), (.int x0)]))
      by_cases hc8 : x0 < (11264 : Int32)
      · refine own_Goes.step (fun t k => XS.icmpNo X0.here hx rfl (hb hby d2_167) rfl (XT.ii_ge_f hc8) k) ?_
        show own_Goes p e below s (own_F2 Z x0 h0) 0 0 (s₁.setTop (mkF m 170 #[.val (.int x0)] []))
        refine own_Goes.step (fun t k => XT.iconstV X0.here hx rfl (0 : Int32) (hb hby d2_170) (by decide) k) ?_
        show own_Goes p e below s (own_F2 Z x0 h0) 0 0 (s₁.setTop (mkF m 171 #[.val (.int x0)] [(.int (0 : Int32))]))
        exact own_endN X0 hx Bd.notSynchronized (t := .boolean) Bd.returns (by simp) (hb hby d2_171) ⟨(congrArg (fun z => some (Value.int z)) (show (0 : Int32) = own_f2 x0 from by rw [hj163]; simp only [own_f2_at163, if_pos hc8])), rfl, e0⟩ (by decide) (by decide)
      · refine own_Goes.step (fun t k => XS.icmpYes X0.here hx rfl (pc0 := 167) (pc' := 172) rfl (hb hby d2_167) rfl (XT.ii_ge_t hc8) (by decide) (by decide) k) ?_
        show own_Goes p e below s (own_F2 Z x0 h0) 0 0 (s₁.setTop (mkF m 172 #[.val (.int x0)] []))
        exact J1172 (by rw [hj163]; simp only [own_f2_at163, if_neg hc8])
    have J1154 : own_f2 x0 = own_f2_at154 x0 → own_Goes p e below s (own_F2 Z x0 h0) 0 0 (s₁.setTop (mkF m 154 #[.val (.int x0)] [])) := by
      intro hj154
      refine own_Goes.step (fun t k => XS.iloadN X0.here hx rfl (hb hby d2_154) rfl k) ?_
      show own_Goes p e below s (own_F2 Z x0 h0) 0 0 (s₁.setTop (mkF m 155 #[.val (.int x0)] [(.int x0)]))
      refine own_Goes.step (fun t k => XT.sipushV X0.here hx rfl (8592 : Int32) (hb hby d2_155) (by decide) k) ?_
      show own_Goes p e below s (own_F2 Z x0 h0) 0 0 (s₁.setTop (mkF m 158 #[.val (.int x0)] [(.int (8592 : Int32)), (.int x0)]))
      by_cases hc9 : x0 < (8592 : Int32)
      · refine own_Goes.step (fun t k => XS.icmpNo X0.here hx rfl (hb hby d2_158) rfl (XT.ii_ge_f hc9) k) ?_
        show own_Goes p e below s (own_F2 Z x0 h0) 0 0 (s₁.setTop (mkF m 161 #[.val (.int x0)] []))
        refine own_Goes.step (fun t k => XT.iconstV X0.here hx rfl (1 : Int32) (hb hby d2_161) (by decide) k) ?_
        show own_Goes p e below s (own_F2 Z x0 h0) 0 0 (s₁.setTop (mkF m 162 #[.val (.int x0)] [(.int (1 : Int32))]))
        exact own_endN X0 hx Bd.notSynchronized (t := .boolean) Bd.returns (by simp) (hb hby d2_162) ⟨(congrArg (fun z => some (Value.int z)) (show (1 : Int32) = own_f2 x0 from by rw [hj154]; simp only [own_f2_at154, if_pos hc9])), rfl, e0⟩ (by decide) (by decide)
      · refine own_Goes.step (fun t k => XS.icmpYes X0.here hx rfl (pc0 := 158) (pc' := 163) rfl (hb hby d2_158) rfl (XT.ii_ge_t hc9) (by decide) (by decide) k) ?_
        show own_Goes p e below s (own_F2 Z x0 h0) 0 0 (s₁.setTop (mkF m 163 #[.val (.int x0)] []))
        exact J1163 (by rw [hj154]; simp only [own_f2_at154, if_neg hc9])
    have J1145 : own_f2 x0 = own_f2_at145 x0 → own_Goes p e below s (own_F2 Z x0 h0) 0 0 (s₁.setTop (mkF m 145 #[.val (.int x0)] [])) := by
      intro hj145
      refine own_Goes.step (fun t k => XS.iloadN X0.here hx rfl (hb hby d2_145) rfl k) ?_
      show own_Goes p e below s (own_F2 Z x0 h0) 0 0 (s₁.setTop (mkF m 146 #[.val (.int x0)] [(.int x0)]))
      refine own_Goes.step (fun t k => XT.sipushV X0.here hx rfl (8304 : Int32) (hb hby d2_146) (by decide) k) ?_
      show own_Goes p e below s (own_F2 Z x0 h0) 0 0 (s₁.setTop (mkF m 149 #[.val (.int x0)] [(.int (8304 : Int32)), (.int x0)]))
      by_cases hc10 : x0 < (8304 : Int32)
      · refine own_Goes.step (fun t k => XS.icmpNo X0.here hx rfl (hb hby d2_149) rfl (XT.ii_ge_f hc10) k) ?_
        show own_Goes p e below s (own_F2 Z x0 h0) 0 0 (s₁.setTop (mkF m 152 #[.val (.int x0)] []))
        refine own_Goes.step (fun t k => XT.iconstV X0.here hx rfl (0 : Int32) (hb hby d2_152) (by decide) k) ?_
        show own_Goes p e below s (own_F2 Z x0 h0) 0 0 (s₁.setTop (mkF m 153 #[.val (.int x0)] [(.int (0 : Int32))]))
        exact own_endN X0 hx Bd.notSynchronized (t := .boolean) Bd.returns (by simp) (hb hby d2_153) ⟨(congrArg (fun z => some (Value.int z)) (show (0 : Int32) = own_f2 x0 from by rw [hj145]; simp only [own_f2_at145, if_pos hc10])), rfl, e0⟩ (by decide) (by decide)
      · refine own_Goes.step (fun t k => XS.icmpYes X0.here hx rfl (pc0 := 149) (pc' := 154) rfl (hb hby d2_149) rfl (XT.ii_ge_t hc10) (by decide) (by decide) k) ?_
        show own_Goes p e below s (own_F2 Z x0 h0) 0 0 (s₁.setTop (mkF m 154 #[.val (.int x0)] []))
        exact J1154 (by rw [hj145]; simp only [own_f2_at145, if_neg hc10])
    have J1143 : own_f2 x0 = own_f2_at143 x0 → own_Goes p e below s (own_F2 Z x0 h0) 0 0 (s₁.setTop (mkF m 143 #[.val (.int x0)] [])) := by
      intro hj143
      refine own_Goes.step (fun t k => XT.iconstV X0.here hx rfl (1 : Int32) (hb hby d2_143) (by decide) k) ?_
      show own_Goes p e below s (own_F2 Z x0 h0) 0 0 (s₁.setTop (mkF m 144 #[.val (.int x0)] [(.int (1 : Int32))]))
      exact own_endN X0 hx Bd.notSynchronized (t := .boolean) Bd.returns (by simp) (hb hby d2_144) ⟨(congrArg (fun z => some (Value.int z)) (show (1 : Int32) = own_f2 x0 from by rw [hj143]; simp only [own_f2_at143])), rfl, e0⟩ (by decide) (by decide)
    have J1129 : own_f2 x0 = own_f2_at129 x0 → own_Goes p e below s (own_F2 Z x0 h0) 0 0 (s₁.setTop (mkF m 129 #[.val (.int x0)] [])) := by
      intro hj129
      refine own_Goes.step (fun t k => XS.iloadN X0.here hx rfl (hb hby d2_129) rfl k) ?_
      show own_Goes p e below s (own_F2 Z x0 h0) 0 0 (s₁.setTop (mkF m 130 #[.val (.int x0)] [(.int x0)]))
      refine own_Goes.step (fun t k => XT.sipushV X0.here hx rfl (8204 : Int32) (hb hby d2_130) (by decide) k) ?_
      show own_Goes p e below s (own_F2 Z x0 h0) 0 0 (s₁.setTop (mkF m 133 #[.val (.int x0)] [(.int (8204 : Int32)), (.int x0)]))
      by_cases hc11 : x0 = (8204 : Int32)
      · refine own_Goes.step (fun t k => XS.icmpYes X0.here hx rfl (pc0 := 133) (pc' := 143) rfl (hb hby d2_133) rfl (XT.ii_eq_t hc11) (by decide) (by decide) k) ?_
        show own_Goes p e below s (own_F2 Z x0 h0) 0 0 (s₁.setTop (mkF m 143 #[.val (.int x0)] []))
        exact J1143 (by rw [hj129]; simp only [own_f2_at129, if_pos hc11])
      · refine own_Goes.step (fun t k => XS.icmpNo X0.here hx rfl (hb hby d2_133) rfl (XT.ii_eq_f hc11) k) ?_
        show own_Goes p e below s (own_F2 Z x0 h0) 0 0 (s₁.setTop (mkF m 136 #[.val (.int x0)] []))
        refine own_Goes.step (fun t k => XS.iloadN X0.here hx rfl (hb hby d2_136) rfl k) ?_
        show own_Goes p e below s (own_F2 Z x0 h0) 0 0 (s₁.setTop (mkF m 137 #[.val (.int x0)] [(.int x0)]))
        refine own_Goes.step (fun t k => XT.sipushV X0.here hx rfl (8205 : Int32) (hb hby d2_137) (by decide) k) ?_
        show own_Goes p e below s (own_F2 Z x0 h0) 0 0 (s₁.setTop (mkF m 140 #[.val (.int x0)] [(.int (8205 : Int32)), (.int x0)]))
        by_cases hc12 : x0 = (8205 : Int32)
        · refine own_Goes.step (fun t k => XS.icmpNo X0.here hx rfl (hb hby d2_140) rfl (XT.ii_ne_f hc12) k) ?_
          show own_Goes p e below s (own_F2 Z x0 h0) 0 0 (s₁.setTop (mkF m 143 #[.val (.int x0)] []))
          exact J1143 (by rw [hj129]; simp only [own_f2_at129, if_neg hc11, if_pos hc12])
        · refine own_Goes.step (fun t k => XS.icmpYes X0.here hx rfl (pc0 := 140) (pc' := 145) rfl (hb hby d2_140) rfl (XT.ii_ne_t hc12) (by decide) (by decide) k) ?_
          show own_Goes p e below s (own_F2 Z x0 h0) 0 0 (s₁.setTop (mkF m 145 #[.val (.int x0)] []))
          exact J1145 (by rw [hj129]; simp only [own_f2_at129, if_neg hc11, if_neg hc12])
    have J1120 : own_f2 x0 = own_f2_at120 x0 → own_Goes p e below s (own_F2 Z x0 h0) 0 0 (s₁.setTop (mkF m 120 #[.val (.int x0)] [])) := by
      intro hj120
      refine own_Goes.step (fun t k => XS.iloadN X0.here hx rfl (hb hby d2_120) rfl k) ?_
      show own_Goes p e below s (own_F2 Z x0 h0) 0 0 (s₁.setTop (mkF m 121 #[.val (.int x0)] [(.int x0)]))
      refine own_Goes.step (fun t k => XT.sipushV X0.here hx rfl (8192 : Int32) (hb hby d2_121) (by decide) k) ?_
      show own_Goes p e below s (own_F2 Z x0 h0) 0 0 (s₁.setTop (mkF m 124 #[.val (.int x0)] [(.int (8192 : Int32)), (.int x0)]))
      by_cases hc13 : x0 < (8192 : Int32)
      · refine own_Goes.step (fun t k => XS.icmpNo X0.here hx rfl (hb hby d2_124) rfl (XT.ii_ge_f hc13) k) ?_
        show own_Goes p e below s (own_F2 Z x0 h0) 0 0 (s₁.setTop (mkF m 127 #[.val (.int x0)] []))
        refine own_Goes.step (fun t k => XT.iconstV X0.here hx rfl (1 : Int32) (hb hby d2_127) (by decide) k) ?_
        show own_Goes p e below s (own_F2 Z x0 h0) 0 0 (s₁.setTop (mkF m 128 #[.val (.int x0)] [(.int (1 : Int32))]))
        exact own_endN X0 hx Bd.notSynchronized (t := .boolean) Bd.returns (by simp) (hb hby d2_128) ⟨(congrArg (fun z => some (Value.int z)) (show (1 : Int32) = own_f2 x0 from by rw [hj120]; simp only [own_f2_at120, if_pos hc13])), rfl, e0⟩ (by decide) (by decide)
      · refine own_Goes.step (fun t k => XS.icmpYes X0.here hx rfl (pc0 := 124) (pc' := 129) rfl (hb hby d2_124) rfl (XT.ii_ge_t hc13) (by decide) (by decide) k) ?_
        show own_Goes p e below s (own_F2 Z x0 h0) 0 0 (s₁.setTop (mkF m 129 #[.val (.int x0)] []))
        exact J1129 (by rw [hj120]; simp only [own_f2_at120, if_neg hc13])
    have J1111 : own_f2 x0 = own_f2_at111 x0 → own_Goes p e below s (own_F2 Z x0 h0) 0 0 (s₁.setTop (mkF m 111 #[.val (.int x0)] [])) := by
      intro hj111
      refine own_Goes.step (fun t k => XS.iloadN X0.here hx rfl (hb hby d2_111) rfl k) ?_
      show own_Goes p e below s (own_F2 Z x0 h0) 0 0 (s₁.setTop (mkF m 112 #[.val (.int x0)] [(.int x0)]))
      refine own_Goes.step (fun t k => XT.sipushV X0.here hx rfl (894 : Int32) (hb hby d2_112) (by decide) k) ?_
      show own_Goes p e below s (own_F2 Z x0 h0) 0 0 (s₁.setTop (mkF m 115 #[.val (.int x0)] [(.int (894 : Int32)), (.int x0)]))
      by_cases hc14 : x0 = (894 : Int32)
      · refine own_Goes.step (fun t k => XS.icmpNo X0.here hx rfl (hb hby d2_115) rfl (XT.ii_ne_f hc14) k) ?_
        show own_Goes p e below s (own_F2 Z x0 h0) 0 0 (s₁.setTop (mkF m 118 #[.val (.int x0)] []))
        refine own_Goes.step (fun t k => XT.iconstV X0.here hx rfl (0 : Int32) (hb hby d2_118) (by decide) k) ?_
        show own_Goes p e below s (own_F2 Z x0 h0) 0 0 (s₁.setTop (mkF m 119 #[.val (.int x0)] [(.int (0 : Int32))]))
        exact own_endN X0 hx Bd.notSynchronized (t := .boolean) Bd.returns (by simp) (hb hby d2_119) ⟨(congrArg (fun z => some (Value.int z)) (show (0 : Int32) = own_f2 x0 from by rw [hj111]; simp only [own_f2_at111, if_pos hc14])), rfl, e0⟩ (by decide) (by decide)
      · refine own_Goes.step (fun t k => XS.icmpYes X0.here hx rfl (pc0 := 115) (pc' := 120) rfl (hb hby d2_115) rfl (XT.ii_ne_t hc14) (by decide) (by decide) k) ?_
        show own_Goes p e below s (own_F2 Z x0 h0) 0 0 (s₁.setTop (mkF m 120 #[.val (.int x0)] []))
        exact J1120 (by rw [hj111]; simp only [own_f2_at111, if_neg hc14])
    have J1102 : own_f2 x0 = own_f2_at102 x0 → own_Goes p e below s (own_F2 Z x0 h0) 0 0 (s₁.setTop (mkF m 102 #[.val (.int x0)] [])) := by
      intro hj102
      refine own_Goes.step (fun t k => XS.iloadN X0.here hx rfl (hb hby d2_102) rfl k) ?_
      show own_Goes p e below s (own_F2 Z x0 h0) 0 0 (s₁.setTop (mkF m 103 #[.val (.int x0)] [(.int x0)]))
      refine own_Goes.step (fun t k => XT.sipushV X0.here hx rfl (880 : Int32) (hb hby d2_103) (by decide) k) ?_
      show own_Goes p e below s (own_F2 Z x0 h0) 0 0 (s₁.setTop (mkF m 106 #[.val (.int x0)] [(.int (880 : Int32)), (.int x0)]))
      by_cases hc15 : x0 < (880 : Int32)
      · refine own_Goes.step (fun t k => XS.icmpNo X0.here hx rfl (hb hby d2_106) rfl (XT.ii_ge_f hc15) k) ?_
        show own_Goes p e below s (own_F2 Z x0 h0) 0 0 (s₁.setTop (mkF m 109 #[.val (.int x0)] []))
        refine own_Goes.step (fun t k => XT.iconstV X0.here hx rfl (0 : Int32) (hb hby d2_109) (by decide) k) ?_
        show own_Goes p e below s (own_F2 Z x0 h0) 0 0 (s₁.setTop (mkF m 110 #[.val (.int x0)] [(.int (0 : Int32))]))
        exact own_endN X0 hx Bd.notSynchronized (t := .boolean) Bd.returns (by simp) (hb hby d2_110) ⟨(congrArg (fun z => some (Value.int z)) (show (0 : Int32) = own_f2 x0 from by rw [hj102]; simp only [own_f2_at102, if_pos hc15])), rfl, e0⟩ (by decide) (by decide)
      · refine own_Goes.step (fun t k => XS.icmpYes X0.here hx rfl (pc0 := 106) (pc' := 111) rfl (hb hby d2_106) rfl (XT.ii_ge_t hc15) (by decide) (by decide) k) ?_
        show own_Goes p e below s (own_F2 Z x0 h0) 0 0 (s₁.setTop (mkF m 111 #[.val (.int x0)] []))
        exact J1111 (by rw [hj102]; simp only [own_f2_at102, if_neg hc15])
    have J1093 : own_f2 x0 = own_f2_at93 x0 → own_Goes p e below s (own_F2 Z x0 h0) 0 0 (s₁.setTop (mkF m 93 #[.val (.int x0)] [])) := by
      intro hj93
      refine own_Goes.step (fun t k => XS.iloadN X0.here hx rfl (hb hby d2_93) rfl k) ?_
      show own_Goes p e below s (own_F2 Z x0 h0) 0 0 (s₁.setTop (mkF m 94 #[.val (.int x0)] [(.int x0)]))
      refine own_Goes.step (fun t k => XT.sipushV X0.here hx rfl (768 : Int32) (hb hby d2_94) (by decide) k) ?_
      show own_Goes p e below s (own_F2 Z x0 h0) 0 0 (s₁.setTop (mkF m 97 #[.val (.int x0)] [(.int (768 : Int32)), (.int x0)]))
      by_cases hc16 : x0 < (768 : Int32)
      · refine own_Goes.step (fun t k => XS.icmpNo X0.here hx rfl (hb hby d2_97) rfl (XT.ii_ge_f hc16) k) ?_
        show own_Goes p e below s (own_F2 Z x0 h0) 0 0 (s₁.setTop (mkF m 100 #[.val (.int x0)] []))
        refine own_Goes.step (fun t k => XT.iconstV X0.here hx rfl (1 : Int32) (hb hby d2_100) (by decide) k) ?_
        show own_Goes p e below s (own_F2 Z x0 h0) 0 0 (s₁.setTop (mkF m 101 #[.val (.int x0)] [(.int (1 : Int32))]))
        exact own_endN X0 hx Bd.notSynchronized (t := .boolean) Bd.returns (by simp) (hb hby d2_101) ⟨(congrArg (fun z => some (Value.int z)) (show (1 : Int32) = own_f2 x0 from by rw [hj93]; simp only [own_f2_at93, if_pos hc16])), rfl, e0⟩ (by decide) (by decide)
      · refine own_Goes.step (fun t k => XS.icmpYes X0.here hx rfl (pc0 := 97) (pc' := 102) rfl (hb hby d2_97) rfl (XT.ii_ge_t hc16) (by decide) (by decide) k) ?_
        show own_Goes p e below s (own_F2 Z x0 h0) 0 0 (s₁.setTop (mkF m 102 #[.val (.int x0)] []))
        exact J1102 (by rw [hj93]; simp only [own_f2_at93, if_neg hc16])
    have J1091 : own_f2 x0 = own_f2_at91 x0 → own_Goes p e below s (own_F2 Z x0 h0) 0 0 (s₁.setTop (mkF m 91 #[.val (.int x0)] [])) := by
      intro hj91
      refine own_Goes.step (fun t k => XT.iconstV X0.here hx rfl (0 : Int32) (hb hby d2_91) (by decide) k) ?_
      show own_Goes p e below s (own_F2 Z x0 h0) 0 0 (s₁.setTop (mkF m 92 #[.val (.int x0)] [(.int (0 : Int32))]))
      exact own_endN X0 hx Bd.notSynchronized (t := .boolean) Bd.returns (by simp) (hb hby d2_92) ⟨(congrArg (fun z => some (Value.int z)) (show (0 : Int32) = own_f2 x0 from by rw [hj91]; simp only [own_f2_at91])), rfl, e0⟩ (by decide) (by decide)
    have J1077 : own_f2 x0 = own_f2_at77 x0 → own_Goes p e below s (own_F2 Z x0 h0) 0 0 (s₁.setTop (mkF m 77 #[.val (.int x0)] [])) := by
      intro hj77
      refine own_Goes.step (fun t k => XS.iloadN X0.here hx rfl (hb hby d2_77) rfl k) ?_
      show own_Goes p e below s (own_F2 Z x0 h0) 0 0 (s₁.setTop (mkF m 78 #[.val (.int x0)] [(.int x0)]))
      refine own_Goes.step (fun t k => XT.sipushV X0.here hx rfl (215 : Int32) (hb hby d2_78) (by decide) k) ?_
      show own_Goes p e below s (own_F2 Z x0 h0) 0 0 (s₁.setTop (mkF m 81 #[.val (.int x0)] [(.int (215 : Int32)), (.int x0)]))
      by_cases hc17 : x0 = (215 : Int32)
      · refine own_Goes.step (fun t k => XS.icmpYes X0.here hx rfl (pc0 := 81) (pc' := 91) rfl (hb hby d2_81) rfl (XT.ii_eq_t hc17) (by decide) (by decide) k) ?_
        show own_Goes p e below s (own_F2 Z x0 h0) 0 0 (s₁.setTop (mkF m 91 #[.val (.int x0)] []))
        exact J1091 (by rw [hj77]; simp only [own_f2_at77, if_pos hc17])
      · refine own_Goes.step (fun t k => XS.icmpNo X0.here hx rfl (hb hby d2_81) rfl (XT.ii_eq_f hc17) k) ?_
        show own_Goes p e below s (own_F2 Z x0 h0) 0 0 (s₁.setTop (mkF m 84 #[.val (.int x0)] []))
        refine own_Goes.step (fun t k => XS.iloadN X0.here hx rfl (hb hby d2_84) rfl k) ?_
        show own_Goes p e below s (own_F2 Z x0 h0) 0 0 (s₁.setTop (mkF m 85 #[.val (.int x0)] [(.int x0)]))
        refine own_Goes.step (fun t k => XT.sipushV X0.here hx rfl (247 : Int32) (hb hby d2_85) (by decide) k) ?_
        show own_Goes p e below s (own_F2 Z x0 h0) 0 0 (s₁.setTop (mkF m 88 #[.val (.int x0)] [(.int (247 : Int32)), (.int x0)]))
        by_cases hc18 : x0 = (247 : Int32)
        · refine own_Goes.step (fun t k => XS.icmpNo X0.here hx rfl (hb hby d2_88) rfl (XT.ii_ne_f hc18) k) ?_
          show own_Goes p e below s (own_F2 Z x0 h0) 0 0 (s₁.setTop (mkF m 91 #[.val (.int x0)] []))
          exact J1091 (by rw [hj77]; simp only [own_f2_at77, if_neg hc17, if_pos hc18])
        · refine own_Goes.step (fun t k => XS.icmpYes X0.here hx rfl (pc0 := 88) (pc' := 93) rfl (hb hby d2_88) rfl (XT.ii_ne_t hc18) (by decide) (by decide) k) ?_
          show own_Goes p e below s (own_F2 Z x0 h0) 0 0 (s₁.setTop (mkF m 93 #[.val (.int x0)] []))
          exact J1093 (by rw [hj77]; simp only [own_f2_at77, if_neg hc17, if_neg hc18])
    have J1068 : own_f2 x0 = own_f2_at68 x0 → own_Goes p e below s (own_F2 Z x0 h0) 0 0 (s₁.setTop (mkF m 68 #[.val (.int x0)] [])) := by
      intro hj68
      refine own_Goes.step (fun t k => XS.iloadN X0.here hx rfl (hb hby d2_68) rfl k) ?_
      show own_Goes p e below s (own_F2 Z x0 h0) 0 0 (s₁.setTop (mkF m 69 #[.val (.int x0)] [(.int x0)]))
      refine own_Goes.step (fun t k => XT.sipushV X0.here hx rfl (192 : Int32) (hb hby d2_69) (by decide) k) ?_
      show own_Goes p e below s (own_F2 Z x0 h0) 0 0 (s₁.setTop (mkF m 72 #[.val (.int x0)] [(.int (192 : Int32)), (.int x0)]))
      by_cases hc19 : x0 < (192 : Int32)
      · refine own_Goes.step (fun t k => XS.icmpNo X0.here hx rfl (hb hby d2_72) rfl (XT.ii_ge_f hc19) k) ?_
        show own_Goes p e below s (own_F2 Z x0 h0) 0 0 (s₁.setTop (mkF m 75 #[.val (.int x0)] []))
        refine own_Goes.step (fun t k => XT.iconstV X0.here hx rfl (0 : Int32) (hb hby d2_75) (by decide) k) ?_
        show own_Goes p e below s (own_F2 Z x0 h0) 0 0 (s₁.setTop (mkF m 76 #[.val (.int x0)] [(.int (0 : Int32))]))
        exact own_endN X0 hx Bd.notSynchronized (t := .boolean) Bd.returns (by simp) (hb hby d2_76) ⟨(congrArg (fun z => some (Value.int z)) (show (0 : Int32) = own_f2 x0 from by rw [hj68]; simp only [own_f2_at68, if_pos hc19])), rfl, e0⟩ (by decide) (by decide)
      · refine own_Goes.step (fun t k => XS.icmpYes X0.here hx rfl (pc0 := 72) (pc' := 77) rfl (hb hby d2_72) rfl (XT.ii_ge_t hc19) (by decide) (by decide) k) ?_
        show own_Goes p e below s (own_F2 Z x0 h0) 0 0 (s₁.setTop (mkF m 77 #[.val (.int x0)] []))
        exact J1077 (by rw [hj68]; simp only [own_f2_at68, if_neg hc19])
    have J1066 : own_f2 x0 = own_f2_at66 x0 → own_Goes p e below s (own_F2 Z x0 h0) 0 0 (s₁.setTop (mkF m 66 #[.val (.int x0)] [])) := by
      intro hj66
      refine own_Goes.step (fun t k => XT.iconstV X0.here hx rfl (0 : Int32) (hb hby d2_66) (by decide) k) ?_
      show own_Goes p e below s (own_F2 Z x0 h0) 0 0 (s₁.setTop (mkF m 67 #[.val (.int x0)] [(.int (0 : Int32))]))
      exact own_endN X0 hx Bd.notSynchronized (t := .boolean) Bd.returns (by simp) (hb hby d2_67) ⟨(congrArg (fun z => some (Value.int z)) (show (0 : Int32) = own_f2 x0 from by rw [hj66]; simp only [own_f2_at66])), rfl, e0⟩ (by decide) (by decide)
    have J1062 : own_f2 x0 = own_f2_at62 x0 → own_Goes p e below s (own_F2 Z x0 h0) 0 0 (s₁.setTop (mkF m 62 #[.val (.int x0)] [])) := by
      intro hj62
      refine own_Goes.step (fun t k => XT.iconstV X0.here hx rfl (1 : Int32) (hb hby d2_62) (by decide) k) ?_
      show own_Goes p e below s (own_F2 Z x0 h0) 0 0 (s₁.setTop (mkF m 63 #[.val (.int x0)] [(.int (1 : Int32))]))
      refine own_Goes.step (fun t k => XS.goto X0.here hx rfl (pc0 := 63) (pc' := 67) rfl (hb hby d2_63) (by decide) (by decide) k) ?_
      show own_Goes p e below s (own_F2 Z x0 h0) 0 0 (s₁.setTop (mkF m 67 #[.val (.int x0)] [(.int (1 : Int32))]))
      exact own_endN X0 hx Bd.notSynchronized (t := .boolean) Bd.returns (by simp) (hb hby d2_67) ⟨(congrArg (fun z => some (Value.int z)) (show (1 : Int32) = own_f2 x0 from by rw [hj62]; simp only [own_f2_at62])), rfl, e0⟩ (by decide) (by decide)
    have J1050 : own_f2 x0 = own_f2_at50 x0 → own_Goes p e below s (own_F2 Z x0 h0) 0 0 (s₁.setTop (mkF m 50 #[.val (.int x0)] [])) := by
      intro hj50
      refine own_Goes.step (fun t k => XS.iloadN X0.here hx rfl (hb hby d2_50) rfl k) ?_
      show own_Goes p e below s (own_F2 Z x0 h0) 0 0 (s₁.setTop (mkF m 51 #[.val (.int x0)] [(.int x0)]))
      refine own_Goes.step (fun t k => XT.bipushV X0.here hx rfl (97 : Int32) (hb hby d2_51) (by decide) k) ?_
      show own_Goes p e below s (own_F2 Z x0 h0) 0 0 (s₁.setTop (mkF m 53 #[.val (.int x0)] [(.int (97 : Int32)), (.int x0)]))
      by_cases hc20 : x0 < (97 : Int32)
      · refine own_Goes.step (fun t k => XS.icmpYes X0.here hx rfl (pc0 := 53) (pc' := 66) rfl (hb hby d2_53) rfl (XT.ii_lt_t hc20) (by decide) (by decide) k) ?_
        show own_Goes p e below s (own_F2 Z x0 h0) 0 0 (s₁.setTop (mkF m 66 #[.val (.int x0)] []))
        exact J1066 (by rw [hj50]; simp only [own_f2_at50, if_pos hc20])
      · refine own_Goes.step (fun t k => XS.icmpNo X0.here hx rfl (hb hby d2_53) rfl (XT.ii_lt_f hc20) k) ?_
        show own_Goes p e below s (own_F2 Z x0 h0) 0 0 (s₁.setTop (mkF m 56 #[.val (.int x0)] []))
        refine own_Goes.step (fun t k => XS.iloadN X0.here hx rfl (hb hby d2_56) rfl k) ?_
        show own_Goes p e below s (own_F2 Z x0 h0) 0 0 (s₁.setTop (mkF m 57 #[.val (.int x0)] [(.int x0)]))
        refine own_Goes.step (fun t k => XT.bipushV X0.here hx rfl (122 : Int32) (hb hby d2_57) (by decide) k) ?_
        show own_Goes p e below s (own_F2 Z x0 h0) 0 0 (s₁.setTop (mkF m 59 #[.val (.int x0)] [(.int (122 : Int32)), (.int x0)]))
        by_cases hc21 : (122 : Int32) < x0
        · refine own_Goes.step (fun t k => XS.icmpYes X0.here hx rfl (pc0 := 59) (pc' := 66) rfl (hb hby d2_59) rfl (XT.ii_gt_t hc21) (by decide) (by decide) k) ?_
          show own_Goes p e below s (own_F2 Z x0 h0) 0 0 (s₁.setTop (mkF m 66 #[.val (.int x0)] []))
          exact J1066 (by rw [hj50]; simp only [own_f2_at50, if_neg hc20, if_pos hc21])
        · refine own_Goes.step (fun t k => XS.icmpNo X0.here hx rfl (hb hby d2_59) rfl (XT.ii_gt_f hc21) k) ?_
          show own_Goes p e below s (own_F2 Z x0 h0) 0 0 (s₁.setTop (mkF m 62 #[.val (.int x0)] []))
          exact J1062 (by rw [hj50]; simp only [own_f2_at50, if_neg hc20, if_neg hc21])
    have J1020 : own_f2 x0 = own_f2_at20 x0 → own_Goes p e below s (own_F2 Z x0 h0) 0 0 (s₁.setTop (mkF m 20 #[.val (.int x0)] [])) := by
      intro hj20
      refine own_Goes.step (fun t k => XS.iloadN X0.here hx rfl (hb hby d2_20) rfl k) ?_
      show own_Goes p e below s (own_F2 Z x0 h0) 0 0 (s₁.setTop (mkF m 21 #[.val (.int x0)] [(.int x0)]))
      refine own_Goes.step (fun t k => XT.bipushV X0.here hx rfl (127 : Int32) (hb hby d2_21) (by decide) k) ?_
      show own_Goes p e below s (own_F2 Z x0 h0) 0 0 (s₁.setTop (mkF m 23 #[.val (.int x0)] [(.int (127 : Int32)), (.int x0)]))
      by_cases hc22 : (127 : Int32) < x0
      · refine own_Goes.step (fun t k => XS.icmpYes X0.here hx rfl (pc0 := 23) (pc' := 68) rfl (hb hby d2_23) rfl (XT.ii_gt_t hc22) (by decide) (by decide) k) ?_
        show own_Goes p e below s (own_F2 Z x0 h0) 0 0 (s₁.setTop (mkF m 68 #[.val (.int x0)] []))
        exact J1068 (by rw [hj20]; simp only [own_f2_at20, if_pos hc22])
      · refine own_Goes.step (fun t k => XS.icmpNo X0.here hx rfl (hb hby d2_23) rfl (XT.ii_gt_f hc22) k) ?_
        show own_Goes p e below s (own_F2 Z x0 h0) 0 0 (s₁.setTop (mkF m 26 #[.val (.int x0)] []))
        refine own_Goes.step (fun t k => XS.iloadN X0.here hx rfl (hb hby d2_26) rfl k) ?_
        show own_Goes p e below s (own_F2 Z x0 h0) 0 0 (s₁.setTop (mkF m 27 #[.val (.int x0)] [(.int x0)]))
        refine own_Goes.step (fun t k => XT.bipushV X0.here hx rfl (58 : Int32) (hb hby d2_27) (by decide) k) ?_
        show own_Goes p e below s (own_F2 Z x0 h0) 0 0 (s₁.setTop (mkF m 29 #[.val (.int x0)] [(.int (58 : Int32)), (.int x0)]))
        by_cases hc23 : x0 = (58 : Int32)
        · refine own_Goes.step (fun t k => XS.icmpYes X0.here hx rfl (pc0 := 29) (pc' := 62) rfl (hb hby d2_29) rfl (XT.ii_eq_t hc23) (by decide) (by decide) k) ?_
          show own_Goes p e below s (own_F2 Z x0 h0) 0 0 (s₁.setTop (mkF m 62 #[.val (.int x0)] []))
          exact J1062 (by rw [hj20]; simp only [own_f2_at20, if_neg hc22, if_pos hc23])
        · refine own_Goes.step (fun t k => XS.icmpNo X0.here hx rfl (hb hby d2_29) rfl (XT.ii_eq_f hc23) k) ?_
          show own_Goes p e below s (own_F2 Z x0 h0) 0 0 (s₁.setTop (mkF m 32 #[.val (.int x0)] []))
          refine own_Goes.step (fun t k => XS.iloadN X0.here hx rfl (hb hby d2_32) rfl k) ?_
          show own_Goes p e below s (own_F2 Z x0 h0) 0 0 (s₁.setTop (mkF m 33 #[.val (.int x0)] [(.int x0)]))
          refine own_Goes.step (fun t k => XT.bipushV X0.here hx rfl (95 : Int32) (hb hby d2_33) (by decide) k) ?_
          show own_Goes p e below s (own_F2 Z x0 h0) 0 0 (s₁.setTop (mkF m 35 #[.val (.int x0)] [(.int (95 : Int32)), (.int x0)]))
          by_cases hc24 : x0 = (95 : Int32)
          · refine own_Goes.step (fun t k => XS.icmpYes X0.here hx rfl (pc0 := 35) (pc' := 62) rfl (hb hby d2_35) rfl (XT.ii_eq_t hc24) (by decide) (by decide) k) ?_
            show own_Goes p e below s (own_F2 Z x0 h0) 0 0 (s₁.setTop (mkF m 62 #[.val (.int x0)] []))
            exact J1062 (by rw [hj20]; simp only [own_f2_at20, if_neg hc22, if_neg hc23, if_pos hc24])
          · refine own_Goes.step (fun t k => XS.icmpNo X0.here hx rfl (hb hby d2_35) rfl (XT.ii_eq_f hc24) k) ?_
            show own_Goes p e below s (own_F2 Z x0 h0) 0 0 (s₁.setTop (mkF m 38 #[.val (.int x0)] []))
            refine own_Goes.step (fun t k => XS.iloadN X0.here hx rfl (hb hby d2_38) rfl k) ?_
            show own_Goes p e below s (own_F2 Z x0 h0) 0 0 (s₁.setTop (mkF m 39 #[.val (.int x0)] [(.int x0)]))
            refine own_Goes.step (fun t k => XT.bipushV X0.here hx rfl (65 : Int32) (hb hby d2_39) (by decide) k) ?_
            show own_Goes p e below s (own_F2 Z x0 h0) 0 0 (s₁.setTop (mkF m 41 #[.val (.int x0)] [(.int (65 : Int32)), (.int x0)]))
            by_cases hc25 : x0 < (65 : Int32)
            · refine own_Goes.step (fun t k => XS.icmpYes X0.here hx rfl (pc0 := 41) (pc' := 50) rfl (hb hby d2_41) rfl (XT.ii_lt_t hc25) (by decide) (by decide) k) ?_
              show own_Goes p e below s (own_F2 Z x0 h0) 0 0 (s₁.setTop (mkF m 50 #[.val (.int x0)] []))
              exact J1050 (by rw [hj20]; simp only [own_f2_at20, if_neg hc22, if_neg hc23, if_neg hc24, if_pos hc25])
            · refine own_Goes.step (fun t k => XS.icmpNo X0.here hx rfl (hb hby d2_41) rfl (XT.ii_lt_f hc25) k) ?_
              show own_Goes p e below s (own_F2 Z x0 h0) 0 0 (s₁.setTop (mkF m 44 #[.val (.int x0)] []))
              refine own_Goes.step (fun t k => XS.iloadN X0.here hx rfl (hb hby d2_44) rfl k) ?_
              show own_Goes p e below s (own_F2 Z x0 h0) 0 0 (s₁.setTop (mkF m 45 #[.val (.int x0)] [(.int x0)]))
              refine own_Goes.step (fun t k => XT.bipushV X0.here hx rfl (90 : Int32) (hb hby d2_45) (by decide) k) ?_
              show own_Goes p e below s (own_F2 Z x0 h0) 0 0 (s₁.setTop (mkF m 47 #[.val (.int x0)] [(.int (90 : Int32)), (.int x0)]))
              by_cases hc26 : (90 : Int32) < x0
              · refine own_Goes.step (fun t k => XS.icmpNo X0.here hx rfl (hb hby d2_47) rfl (XT.ii_le_f hc26) k) ?_
                show own_Goes p e below s (own_F2 Z x0 h0) 0 0 (s₁.setTop (mkF m 50 #[.val (.int x0)] []))
                exact J1050 (by rw [hj20]; simp only [own_f2_at20, if_neg hc22, if_neg hc23, if_neg hc24, if_neg hc25, if_pos hc26])
              · refine own_Goes.step (fun t k => XS.icmpYes X0.here hx rfl (pc0 := 47) (pc' := 62) rfl (hb hby d2_47) rfl (XT.ii_le_t hc26) (by decide) (by decide) k) ?_
                show own_Goes p e below s (own_F2 Z x0 h0) 0 0 (s₁.setTop (mkF m 62 #[.val (.int x0)] []))
                exact J1062 (by rw [hj20]; simp only [own_f2_at20, if_neg hc22, if_neg hc23, if_neg hc24, if_neg hc25, if_neg hc26])
    have J1012 : own_f2 x0 = own_f2_at12 x0 → own_Goes p e below s (own_F2 Z x0 h0) 0 0 (s₁.setTop (mkF m 12 #[.val (.int x0)] [])) := by
      intro hj12
      refine own_Goes.step (fun t k => XS.iloadN X0.here hx rfl (hb hby d2_12) rfl k) ?_
      show own_Goes p e below s (own_F2 Z x0 h0) 0 0 (s₁.setTop (mkF m 13 #[.val (.int x0)] [(.int x0)]))
      refine own_Goes.step (fun t k => X0.ldcI hx hown (mvT hZ (hw _ (List.mem_of_getElem? (i := 6) rfl))) rfl (hb hby d2_13) k) ?_
      show own_Goes p e below s (own_F2 Z x0 h0) 0 0 (s₁.setTop (mkF m 15 #[.val (.int x0)] [(.int (65536 : Int32)), (.int x0)]))
      by_cases hc27 : x0 < (65536 : Int32)
      · refine own_Goes.step (fun t k => XS.icmpYes X0.here hx rfl (pc0 := 15) (pc' := 20) rfl (hb hby d2_15) rfl (XT.ii_lt_t hc27) (by decide) (by decide) k) ?_
        show own_Goes p e below s (own_F2 Z x0 h0) 0 0 (s₁.setTop (mkF m 20 #[.val (.int x0)] []))
        exact J1020 (by rw [hj12]; simp only [own_f2_at12, if_pos hc27])
      · refine own_Goes.step (fun t k => XS.icmpNo X0.here hx rfl (hb hby d2_15) rfl (XT.ii_lt_f hc27) k) ?_
        show own_Goes p e below s (own_F2 Z x0 h0) 0 0 (s₁.setTop (mkF m 18 #[.val (.int x0)] []))
        refine own_Goes.step (fun t k => XT.iconstV X0.here hx rfl (1 : Int32) (hb hby d2_18) (by decide) k) ?_
        show own_Goes p e below s (own_F2 Z x0 h0) 0 0 (s₁.setTop (mkF m 19 #[.val (.int x0)] [(.int (1 : Int32))]))
        exact own_endN X0 hx Bd.notSynchronized (t := .boolean) Bd.returns (by simp) (hb hby d2_19) ⟨(congrArg (fun z => some (Value.int z)) (show (1 : Int32) = own_f2 x0 from by rw [hj12]; simp only [own_f2_at12, if_neg hc27])), rfl, e0⟩ (by decide) (by decide)
    have J1010 : own_f2 x0 = own_f2_at10 x0 → own_Goes p e below s (own_F2 Z x0 h0) 0 0 (s₁.setTop (mkF m 10 #[.val (.int x0)] [])) := by
      intro hj10
      refine own_Goes.step (fun t k => XT.iconstV X0.here hx rfl (0 : Int32) (hb hby d2_10) (by decide) k) ?_
      show own_Goes p e below s (own_F2 Z x0 h0) 0 0 (s₁.setTop (mkF m 11 #[.val (.int x0)] [(.int (0 : Int32))]))
      exact own_endN X0 hx Bd.notSynchronized (t := .boolean) Bd.returns (by simp) (hb hby d2_11) ⟨(congrArg (fun z => some (Value.int z)) (show (0 : Int32) = own_f2 x0 from by rw [hj10]; simp only [own_f2_at10])), rfl, e0⟩ (by decide) (by decide)
    refine own_Goes.step (fun t k => XS.iloadN X0.here hx rfl (hb hby d2_0) rfl k) ?_
    show own_Goes p e below s (own_F2 Z x0 h0) 0 0 (s₁.setTop (mkF m 1 #[.val (.int x0)] [(.int x0)]))
    by_cases hc28 : x0 < (0 : Int32)
    · refine own_Goes.step (fun t k => XS.ifYes X0.here hx rfl (pc0 := 1) (pc' := 10) rfl (hb hby d2_1) rfl (XT.i0_lt_t hc28) (by decide) (by decide) k) ?_
      show own_Goes p e below s (own_F2 Z x0 h0) 0 0 (s₁.setTop (mkF m 10 #[.val (.int x0)] []))
      exact J1010 (by simp only [own_f2, if_pos hc28])
    · refine own_Goes.step (fun t k => XS.ifNo X0.here hx rfl (hb hby d2_1) rfl (XT.i0_lt_f hc28) k) ?_
      show own_Goes p e below s (own_F2 Z x0 h0) 0 0 (s₁.setTop (mkF m 4 #[.val (.int x0)] []))
      refine own_Goes.step (fun t k => XS.iloadN X0.here hx rfl (hb hby d2_4) rfl k) ?_
      show own_Goes p e below s (own_F2 Z x0 h0) 0 0 (s₁.setTop (mkF m 5 #[.val (.int x0)] [(.int x0)]))
      refine own_Goes.step (fun t k => X0.ldcI hx hown (mvT hZ (hw _ (List.mem_of_getElem? (i := 7) rfl))) rfl (hb hby d2_5) k) ?_
      show own_Goes p e below s (own_F2 Z x0 h0) 0 0 (s₁.setTop (mkF m 7 #[.val (.int x0)] [(.int (983039 : Int32)), (.int x0)]))
      by_cases hc29 : (983039 : Int32) < x0
      · refine own_Goes.step (fun t k => XS.icmpNo X0.here hx rfl (hb hby d2_7) rfl (XT.ii_le_f hc29) k) ?_
        show own_Goes p e below s (own_F2 Z x0 h0) 0 0 (s₁.setTop (mkF m 10 #[.val (.int x0)] []))
        exact J1010 (by simp only [own_f2, if_neg hc28, if_pos hc29])
      · refine own_Goes.step (fun t k => XS.icmpYes X0.here hx rfl (pc0 := 7) (pc' := 12) rfl (hb hby d2_7) rfl (XT.ii_le_t hc29) (by decide) (by decide) k) ?_
        show own_Goes p e below s (own_F2 Z x0 h0) 0 0 (s₁.setTop (mkF m 12 #[.val (.int x0)] []))
        exact J1012 (by simp only [own_f2, if_neg hc28, if_neg hc29])
  obtain ⟨t2, o2, q1, q2, q3, q4⟩ := hgo
  exact ⟨t2, o2, castTop (ef_2 m x0) q1, q2, q3, q4⟩
theorem d1_0 : decode prog_149_method_11_code 0 = .ok (.iload_n 0, 1) := by decide +kernel
theorem d1_1 : decode prog_149_method_11_code 1 = .ok (.bipush 58, 2) := by decide +kernel
theorem d1_3 : decode prog_149_method_11_code 3 = .ok (.if_icmp .eq 194, 3) := by decide +kernel
theorem d1_6 : decode prog_149_method_11_code 6 = .ok (.iload_n 0, 1) := by decide +kernel
theorem d1_7 : decode prog_149_method_11_code 7 = .ok (.bipush 65, 2) := by decide +kernel
theorem d1_9 : decode prog_149_method_11_code 9 = .ok (.if_icmp .lt 9, 3) := by decide +kernel
theorem d1_12 : decode prog_149_method_11_code 12 = .ok (.iload_n 0, 1) := by decide +kernel
theorem d1_13 : decode prog_149_method_11_code 13 = .ok (.bipush 90, 2) := by decide +kernel
theorem d1_15 : decode prog_149_method_11_code 15 = .ok (.if_icmp .le 182, 3) := by decide +kernel
theorem d1_18 : decode prog_149_method_11_code 18 = .ok (.iload_n 0, 1) := by decide +kernel
theorem d1_19 : decode prog_149_method_11_code 19 = .ok (.bipush 95, 2) := by decide +kernel
theorem d1_21 : decode prog_149_method_11_code 21 = .ok (.if_icmp .eq 176, 3) := by decide +kernel
theorem d1_24 : decode prog_149_method_11_code 24 = .ok (.iload_n 0, 1) := by decide +kernel
theorem d1_25 : decode prog_149_method_11_code 25 = .ok (.bipush 97, 2) := by decide +kernel
theorem d1_27 : decode prog_149_method_11_code 27 = .ok (.if_icmp .lt 9, 3) := by decide +kernel
theorem d1_30 : decode prog_149_method_11_code 30 = .ok (.iload_n 0, 1) := by decide +kernel
theorem d1_31 : decode prog_149_method_11_code 31 = .ok (.bipush 122, 2) := by decide +kernel
theorem d1_33 : decode prog_149_method_11_code 33 = .ok (.if_icmp .le 164, 3) := by decide +kernel
theorem d1_36 : decode prog_149_method_11_code 36 = .ok (.iload_n 0, 1) := by decide +kernel
theorem d1_37 : decode prog_149_method_11_code 37 = .ok (.sipush 192, 3) := by decide +kernel
theorem d1_40 : decode prog_149_method_11_code 40 = .ok (.if_icmp .lt 10, 3) := by decide +kernel
theorem d1_43 : decode prog_149_method_11_code 43 = .ok (.iload_n 0, 1) := by decide +kernel
theorem d1_44 : decode prog_149_method_11_code 44 = .ok (.sipush 214, 3) := by decide +kernel
theorem d1_47 : decode prog_149_method_11_code 47 = .ok (.if_icmp .le 150, 3) := by decide +kernel
theorem d1_50 : decode prog_149_method_11_code 50 = .ok (.iload_n 0, 1) := by decide +kernel
theorem d1_51 : decode prog_149_method_11_code 51 = .ok (.sipush 216, 3) := by decide +kernel
theorem d1_54 : decode prog_149_method_11_code 54 = .ok (.if_icmp .lt 10, 3) := by decide +kernel
theorem d1_57 : decode prog_149_method_11_code 57 = .ok (.iload_n 0, 1) := by decide +kernel
theorem d1_58 : decode prog_149_method_11_code 58 = .ok (.sipush 246, 3) := by decide +kernel
theorem d1_61 : decode prog_149_method_11_code 61 = .ok (.if_icmp .le 136, 3) := by decide +kernel
theorem d1_64 : decode prog_149_method_11_code 64 = .ok (.iload_n 0, 1) := by decide +kernel
theorem d1_65 : decode prog_149_method_11_code 65 = .ok (.sipush 248, 3) := by decide +kernel
theorem d1_68 : decode prog_149_method_11_code 68 = .ok (.if_icmp .lt 10, 3) := by decide +kernel
theorem d1_71 : decode prog_149_method_11_code 71 = .ok (.iload_n 0, 1) := by decide +kernel
theorem d1_72 : decode prog_149_method_11_code 72 = .ok (.sipush 767, 3) := by decide +kernel
theorem d1_75 : decode prog_149_method_11_code 75 = .ok (.if_icmp .le 122, 3) := by decide +kernel
theorem d1_78 : decode prog_149_method_11_code 78 = .ok (.iload_n 0, 1) := by decide +kernel
theorem d1_79 : decode prog_149_method_11_code 79 = .ok (.sipush 880, 3) := by decide +kernel
theorem d1_82 : decode prog_149_method_11_code 82 = .ok (.if_icmp .lt 10, 3) := by decide +kernel
theorem d1_85 : decode prog_149_method_11_code 85 = .ok (.iload_n 0, 1) := by decide +kernel
theorem d1_86 : decode prog_149_method_11_code 86 = .ok (.sipush 893, 3) := by decide +kernel
theorem d1_89 : decode prog_149_method_11_code 89 = .ok (.if_icmp .le 108, 3) := by decide +kernel
theorem d1_92 : decode prog_149_method_11_code 92 = .ok (.iload_n 0, 1) := by decide +kernel
theorem d1_93 : decode prog_149_method_11_code 93 = .ok (.sipush 895, 3) := by decide +kernel
theorem d1_96 : decode prog_149_method_11_code 96 = .ok (.if_icmp .lt 10, 3) := by decide +kernel
theorem d1_99 : decode prog_149_method_11_code 99 = .ok (.iload_n 0, 1) := by decide +kernel
theorem d1_100 : decode prog_149_method_11_code 100 = .ok (.sipush 8191, 3) := by decide +kernel
theorem d1_103 : decode prog_149_method_11_code 103 = .ok (.if_icmp .le 94, 3) := by decide +kernel
theorem d1_106 : decode prog_149_method_11_code 106 = .ok (.iload_n 0, 1) := by decide +kernel
theorem d1_107 : decode prog_149_method_11_code 107 = .ok (.sipush 8204, 3) := by decide +kernel
theorem d1_110 : decode prog_149_method_11_code 110 = .ok (.if_icmp .lt 10, 3) := by decide +kernel
theorem d1_113 : decode prog_149_method_11_code 113 = .ok (.iload_n 0, 1) := by decide +kernel
theorem d1_114 : decode prog_149_method_11_code 114 = .ok (.sipush 8205, 3) := by decide +kernel
theorem d1_117 : decode prog_149_method_11_code 117 = .ok (.if_icmp .le 80, 3) := by decide +kernel
theorem d1_120 : decode prog_149_method_11_code 120 = .ok (.iload_n 0, 1) := by decide +kernel
theorem d1_121 : decode prog_149_method_11_code 121 = .ok (.sipush 8304, 3) := by decide +kernel
theorem d1_124 : decode prog_149_method_11_code 124 = .ok (.if_icmp .lt 10, 3) := by decide +kernel
theorem d1_127 : decode prog_149_method_11_code 127 = .ok (.iload_n 0, 1) := by decide +kernel
theorem d1_128 : decode prog_149_method_11_code 128 = .ok (.sipush 8591, 3) := by decide +kernel
theorem d1_131 : decode prog_149_method_11_code 131 = .ok (.if_icmp .le 66, 3) := by decide +kernel
theorem d1_134 : decode prog_149_method_11_code 134 = .ok (.iload_n 0, 1) := by decide +kernel
theorem d1_135 : decode prog_149_method_11_code 135 = .ok (.sipush 11264, 3) := by decide +kernel
theorem d1_138 : decode prog_149_method_11_code 138 = .ok (.if_icmp .lt 10, 3) := by decide +kernel
theorem d1_141 : decode prog_149_method_11_code 141 = .ok (.iload_n 0, 1) := by decide +kernel
theorem d1_142 : decode prog_149_method_11_code 142 = .ok (.sipush 12271, 3) := by decide +kernel
theorem d1_145 : decode prog_149_method_11_code 145 = .ok (.if_icmp .le 52, 3) := by decide +kernel
theorem d1_148 : decode prog_149_method_11_code 148 = .ok (.iload_n 0, 1) := by decide +kernel
theorem d1_149 : decode prog_149_method_11_code 149 = .ok (.sipush 12289, 3) := by decide +kernel
theorem d1_152 : decode prog_149_method_11_code 152 = .ok (.if_icmp .lt 9, 3) := by decide +kernel
theorem d1_155 : decode prog_149_method_11_code 155 = .ok (.iload_n 0, 1) := by decide +kernel
theorem d1_156 : decode prog_149_method_11_code 156 = .ok (.ldc 71, 2) := by decide +kernel
theorem d1_158 : decode prog_149_method_11_code 158 = .ok (.if_icmp .le 39, 3) := by decide +kernel
theorem d1_161 : decode prog_149_method_11_code 161 = .ok (.iload_n 0, 1) := by decide +kernel
theorem d1_162 : decode prog_149_method_11_code 162 = .ok (.ldc 72, 2) := by decide +kernel
theorem d1_164 : decode prog_149_method_11_code 164 = .ok (.if_icmp .lt 9, 3) := by decide +kernel
theorem d1_167 : decode prog_149_method_11_code 167 = .ok (.iload_n 0, 1) := by decide +kernel
theorem d1_168 : decode prog_149_method_11_code 168 = .ok (.ldc 73, 2) := by decide +kernel
theorem d1_170 : decode prog_149_method_11_code 170 = .ok (.if_icmp .le 27, 3) := by decide +kernel
theorem d1_173 : decode prog_149_method_11_code 173 = .ok (.iload_n 0, 1) := by decide +kernel
theorem d1_174 : decode prog_149_method_11_code 174 = .ok (.ldc 74, 2) := by decide +kernel
theorem d1_176 : decode prog_149_method_11_code 176 = .ok (.if_icmp .lt 9, 3) := by decide +kernel
theorem d1_179 : decode prog_149_method_11_code 179 = .ok (.iload_n 0, 1) := by decide +kernel
theorem d1_180 : decode prog_149_method_11_code 180 = .ok (.ldc 75, 2) := by decide +kernel
theorem d1_182 : decode prog_149_method_11_code 182 = .ok (.if_icmp .le 15, 3) := by decide +kernel
theorem d1_185 : decode prog_149_method_11_code 185 = .ok (.iload_n 0, 1) := by decide +kernel
theorem d1_186 : decode prog_149_method_11_code 186 = .ok (.ldc 76, 2) := by decide +kernel
theorem d1_188 : decode prog_149_method_11_code 188 = .ok (.if_icmp .lt 13, 3) := by decide +kernel
theorem d1_191 : decode prog_149_method_11_code 191 = .ok (.iload_n 0, 1) := by decide +kernel
theorem d1_192 : decode prog_149_method_11_code 192 = .ok (.ldc 77, 2) := by decide +kernel
theorem d1_194 : decode prog_149_method_11_code 194 = .ok (.if_icmp .gt 7, 3) := by decide +kernel
theorem d1_197 : decode prog_149_method_11_code 197 = .ok (.iconst 1, 1) := by decide +kernel
theorem d1_198 : decode prog_149_method_11_code 198 = .ok (.goto 4, 3) := by decide +kernel
theorem d1_201 : decode prog_149_method_11_code 201 = .ok (.iconst 0, 1) := by decide +kernel
theorem d1_202 : decode prog_149_method_11_code 202 = .ok (.ireturn, 1) := by decide +kernel
theorem pn_1 : plainName "com/example/arbora/arbora/XmlSyntax" = true := by first | (simp [plainName, overriddenIn]; done) | decide +kernel
theorem pd_1 : parseMethodDescriptor "(I)Z" = some ⟨[.int], (some .boolean)⟩ := by decide +kernel
theorem ef_1 (m : MethodId) (x0 : Int32) : entryFrame m #[(.int x0)] 1 = mkF m 0 #[.val (.int x0)] [] := by first | (simp [entryFrame, mkF, argsToLocals, Value.category]; done) | rfl
def own_f1_at201 (x0 : Int32) : Int32 := (0 : Int32)
def own_f1_at197 (x0 : Int32) : Int32 := (1 : Int32)
def own_f1_at185 (x0 : Int32) : Int32 := (if x0 < (65536 : Int32) then (own_f1_at201 x0) else (if (983039 : Int32) < x0 then (own_f1_at201 x0) else (own_f1_at197 x0)))
def own_f1_at173 (x0 : Int32) : Int32 := (if x0 < (65008 : Int32) then (own_f1_at185 x0) else (if (65533 : Int32) < x0 then (own_f1_at185 x0) else (own_f1_at197 x0)))
def own_f1_at161 (x0 : Int32) : Int32 := (if x0 < (63744 : Int32) then (own_f1_at173 x0) else (if (64975 : Int32) < x0 then (own_f1_at173 x0) else (own_f1_at197 x0)))
def own_f1_at148 (x0 : Int32) : Int32 := (if x0 < (12289 : Int32) then (own_f1_at161 x0) else (if (55295 : Int32) < x0 then (own_f1_at161 x0) else (own_f1_at197 x0)))
def own_f1_at134 (x0 : Int32) : Int32 := (if x0 < (11264 : Int32) then (own_f1_at148 x0) else (if (12271 : Int32) < x0 then (own_f1_at148 x0) else (own_f1_at197 x0)))
def own_f1_at120 (x0 : Int32) : Int32 := (if x0 < (8304 : Int32) then (own_f1_at134 x0) else (if (8591 : Int32) < x0 then (own_f1_at134 x0) else (own_f1_at197 x0)))
def own_f1_at106 (x0 : Int32) : Int32 := (if x0 < (8204 : Int32) then (own_f1_at120 x0) else (if (8205 : Int32) < x0 then (own_f1_at120 x0) else (own_f1_at197 x0)))
def own_f1_at92 (x0 : Int32) : Int32 := (if x0 < (895 : Int32) then (own_f1_at106 x0) else (if (8191 : Int32) < x0 then (own_f1_at106 x0) else (own_f1_at197 x0)))
def own_f1_at78 (x0 : Int32) : Int32 := (if x0 < (880 : Int32) then (own_f1_at92 x0) else (if (893 : Int32) < x0 then (own_f1_at92 x0) else (own_f1_at197 x0)))
def own_f1_at64 (x0 : Int32) : Int32 := (if x0 < (248 : Int32) then (own_f1_at78 x0) else (if (767 : Int32) < x0 then (own_f1_at78 x0) else (own_f1_at197 x0)))
def own_f1_at50 (x0 : Int32) : Int32 := (if x0 < (216 : Int32) then (own_f1_at64 x0) else (if (246 : Int32) < x0 then (own_f1_at64 x0) else (own_f1_at197 x0)))
def own_f1_at36 (x0 : Int32) : Int32 := (if x0 < (192 : Int32) then (own_f1_at50 x0) else (if (214 : Int32) < x0 then (own_f1_at50 x0) else (own_f1_at197 x0)))
def own_f1_at18 (x0 : Int32) : Int32 := (if x0 = (95 : Int32) then (own_f1_at197 x0) else (if x0 < (97 : Int32) then (own_f1_at36 x0) else (if (122 : Int32) < x0 then (own_f1_at36 x0) else (own_f1_at197 x0))))
def own_f1 (x0 : Int32) : Int32 := (if x0 = (58 : Int32) then (own_f1_at197 x0) else (if x0 < (65 : Int32) then (own_f1_at18 x0) else (if (90 : Int32) < x0 then (own_f1_at18 x0) else (own_f1_at197 x0))))
def own_F1 (Z : State) (x0 : Int32)  (h0 : Heap) (v : Option Value) (h : Heap) (L : List Loc) : Prop := v = some (.int (own_f1 x0)) ∧ L = [] ∧ h = h0
set_option maxRecDepth 65536 in
set_option maxHeartbeats 40000000 in
theorem own_m1 (l : Launch) (Z : State) (a0 : Array Value) (hw : ∀ d ∈ tables_1, d.before a0 Z = true) (ws : List Jvm.Cond) (x0 : Int32)  (h0 : Heap)   :
    MetFree l (⟨"com/example/arbora/arbora/XmlSyntax", "isNameStartChar", "(I)Z"⟩ : MethodName) (head1 (Jvm.Cond.code (⟨"com/example/arbora/arbora/XmlSyntax", "isNameStartChar", "(I)Z"⟩ : MethodName) prog_149_method_11_code 1 (some .boolean) :: ws) ({ frames := 0, cells := 0, slots := 0, locals := 0 } : Room)) (fun a U => a = #[(.int x0)] ∧ Z.Warmed39 U.vm ∧ U.heap = h0) (fun _ _ _ _ _ => True) (fun _ U o U' => ∃ v L, o = .returned v ∧ own_F1 Z x0 h0 v U'.heap L ∧ FrameEnd U o U' L ({ frames := 0, cells := 0, slots := 0, locals := 0 } : Room).cells ({ frames := 0, cells := 0, slots := 0, locals := 0 } : Room).slots) := by
  refine MetFree.of_bodySF (plainFor_of_name pn_1) hisR ?_
  intro p e s m args below meth c s₁ Bd hml0 hP hK
  obtain ⟨rfl, hZ, hh⟩ := hP
  have hx := Bd.exec
  have hby := Bd.bytes
  have hml : c.maxLocals = 1 := hml0
  have hown : s.vm.findClass "com/example/arbora/arbora/XmlSyntax" = some m.cls := findClass_of_methodNamed Bd.named
  have hnm := (name_of_methodNamed Bd.named Bd.method).1
  have X0 : Stand p l e ({ frames := 0, cells := 0, slots := 0, locals := 0 } : Room) s m #[(.int x0)] below meth c s₁ [] 0 0 := Stand.of_body Bd
  have e0 : s₁.heap = h0 := by rw [← hh, Bd.state]; rfl
  have hgo : own_Goes p e below s (own_F1 Z x0 h0) 0 0 (s₁.setTop (mkF m 0 #[.val (.int x0)] [])) := by
    have J1201 : own_f1 x0 = own_f1_at201 x0 → own_Goes p e below s (own_F1 Z x0 h0) 0 0 (s₁.setTop (mkF m 201 #[.val (.int x0)] [])) := by
      intro hj201
      refine own_Goes.step (fun t k => XT.iconstV X0.here hx rfl (0 : Int32) (hb hby d1_201) (by decide) k) ?_
      show own_Goes p e below s (own_F1 Z x0 h0) 0 0 (s₁.setTop (mkF m 202 #[.val (.int x0)] [(.int (0 : Int32))]))
      exact own_endN X0 hx Bd.notSynchronized (t := .boolean) Bd.returns (by simp) (hb hby d1_202) ⟨(congrArg (fun z => some (Value.int z)) (show (0 : Int32) = own_f1 x0 from by rw [hj201]; simp only [own_f1_at201])), rfl, e0⟩ (by decide) (by decide)
    have J1197 : own_f1 x0 = own_f1_at197 x0 → own_Goes p e below s (own_F1 Z x0 h0) 0 0 (s₁.setTop (mkF m 197 #[.val (.int x0)] [])) := by
      intro hj197
      refine own_Goes.step (fun t k => XT.iconstV X0.here hx rfl (1 : Int32) (hb hby d1_197) (by decide) k) ?_
      show own_Goes p e below s (own_F1 Z x0 h0) 0 0 (s₁.setTop (mkF m 198 #[.val (.int x0)] [(.int (1 : Int32))]))
      refine own_Goes.step (fun t k => XS.goto X0.here hx rfl (pc0 := 198) (pc' := 202) rfl (hb hby d1_198) (by decide) (by decide) k) ?_
      show own_Goes p e below s (own_F1 Z x0 h0) 0 0 (s₁.setTop (mkF m 202 #[.val (.int x0)] [(.int (1 : Int32))]))
      exact own_endN X0 hx Bd.notSynchronized (t := .boolean) Bd.returns (by simp) (hb hby d1_202) ⟨(congrArg (fun z => some (Value.int z)) (show (1 : Int32) = own_f1 x0 from by rw [hj197]; simp only [own_f1_at197])), rfl, e0⟩ (by decide) (by decide)
    have J1185 : own_f1 x0 = own_f1_at185 x0 → own_Goes p e below s (own_F1 Z x0 h0) 0 0 (s₁.setTop (mkF m 185 #[.val (.int x0)] [])) := by
      intro hj185
      refine own_Goes.step (fun t k => XS.iloadN X0.here hx rfl (hb hby d1_185) rfl k) ?_
      show own_Goes p e below s (own_F1 Z x0 h0) 0 0 (s₁.setTop (mkF m 186 #[.val (.int x0)] [(.int x0)]))
      refine own_Goes.step (fun t k => X0.ldcI hx hown (mvT hZ (hw _ (List.mem_of_getElem? (i := 18) rfl))) rfl (hb hby d1_186) k) ?_
      show own_Goes p e below s (own_F1 Z x0 h0) 0 0 (s₁.setTop (mkF m 188 #[.val (.int x0)] [(.int (65536 : Int32)), (.int x0)]))
      by_cases hc1 : x0 < (65536 : Int32)
      · refine own_Goes.step (fun t k => XS.icmpYes X0.here hx rfl (pc0 := 188) (pc' := 201) rfl (hb hby d1_188) rfl (XT.ii_lt_t hc1) (by decide) (by decide) k) ?_
        show own_Goes p e below s (own_F1 Z x0 h0) 0 0 (s₁.setTop (mkF m 201 #[.val (.int x0)] []))
        exact J1201 (by rw [hj185]; simp only [own_f1_at185, if_pos hc1])
      · refine own_Goes.step (fun t k => XS.icmpNo X0.here hx rfl (hb hby d1_188) rfl (XT.ii_lt_f hc1) k) ?_
        show own_Goes p e below s (own_F1 Z x0 h0) 0 0 (s₁.setTop (mkF m 191 #[.val (.int x0)] []))
        refine own_Goes.step (fun t k => XS.iloadN X0.here hx rfl (hb hby d1_191) rfl k) ?_
        show own_Goes p e below s (own_F1 Z x0 h0) 0 0 (s₁.setTop (mkF m 192 #[.val (.int x0)] [(.int x0)]))
        refine own_Goes.step (fun t k => X0.ldcI hx hown (mvT hZ (hw _ (List.mem_of_getElem? (i := 26) rfl))) rfl (hb hby d1_192) k) ?_
        show own_Goes p e below s (own_F1 Z x0 h0) 0 0 (s₁.setTop (mkF m 194 #[.val (.int x0)] [(.int (983039 : Int32)), (.int x0)]))
        by_cases hc2 : (983039 : Int32) < x0
        · refine own_Goes.step (fun t k => XS.icmpYes X0.here hx rfl (pc0 := 194) (pc' := 201) rfl (hb hby d1_194) rfl (XT.ii_gt_t hc2) (by decide) (by decide) k) ?_
          show own_Goes p e below s (own_F1 Z x0 h0) 0 0 (s₁.setTop (mkF m 201 #[.val (.int x0)] []))
          exact J1201 (by rw [hj185]; simp only [own_f1_at185, if_neg hc1, if_pos hc2])
        · refine own_Goes.step (fun t k => XS.icmpNo X0.here hx rfl (hb hby d1_194) rfl (XT.ii_gt_f hc2) k) ?_
          show own_Goes p e below s (own_F1 Z x0 h0) 0 0 (s₁.setTop (mkF m 197 #[.val (.int x0)] []))
          exact J1197 (by rw [hj185]; simp only [own_f1_at185, if_neg hc1, if_neg hc2])
    have J1173 : own_f1 x0 = own_f1_at173 x0 → own_Goes p e below s (own_F1 Z x0 h0) 0 0 (s₁.setTop (mkF m 173 #[.val (.int x0)] [])) := by
      intro hj173
      refine own_Goes.step (fun t k => XS.iloadN X0.here hx rfl (hb hby d1_173) rfl k) ?_
      show own_Goes p e below s (own_F1 Z x0 h0) 0 0 (s₁.setTop (mkF m 174 #[.val (.int x0)] [(.int x0)]))
      refine own_Goes.step (fun t k => X0.ldcI hx hown (mvT hZ (hw _ (List.mem_of_getElem? (i := 17) rfl))) rfl (hb hby d1_174) k) ?_
      show own_Goes p e below s (own_F1 Z x0 h0) 0 0 (s₁.setTop (mkF m 176 #[.val (.int x0)] [(.int (65008 : Int32)), (.int x0)]))
      by_cases hc3 : x0 < (65008 : Int32)
      · refine own_Goes.step (fun t k => XS.icmpYes X0.here hx rfl (pc0 := 176) (pc' := 185) rfl (hb hby d1_176) rfl (XT.ii_lt_t hc3) (by decide) (by decide) k) ?_
        show own_Goes p e below s (own_F1 Z x0 h0) 0 0 (s₁.setTop (mkF m 185 #[.val (.int x0)] []))
        exact J1185 (by rw [hj173]; simp only [own_f1_at173, if_pos hc3])
      · refine own_Goes.step (fun t k => XS.icmpNo X0.here hx rfl (hb hby d1_176) rfl (XT.ii_lt_f hc3) k) ?_
        show own_Goes p e below s (own_F1 Z x0 h0) 0 0 (s₁.setTop (mkF m 179 #[.val (.int x0)] []))
        refine own_Goes.step (fun t k => XS.iloadN X0.here hx rfl (hb hby d1_179) rfl k) ?_
        show own_Goes p e below s (own_F1 Z x0 h0) 0 0 (s₁.setTop (mkF m 180 #[.val (.int x0)] [(.int x0)]))
        refine own_Goes.step (fun t k => X0.ldcI hx hown (mvT hZ (hw _ (List.mem_of_getElem? (i := 25) rfl))) rfl (hb hby d1_180) k) ?_
        show own_Goes p e below s (own_F1 Z x0 h0) 0 0 (s₁.setTop (mkF m 182 #[.val (.int x0)] [(.int (65533 : Int32)), (.int x0)]))
        by_cases hc4 : (65533 : Int32) < x0
        · refine own_Goes.step (fun t k => XS.icmpNo X0.here hx rfl (hb hby d1_182) rfl (XT.ii_le_f hc4) k) ?_
          show own_Goes p e below s (own_F1 Z x0 h0) 0 0 (s₁.setTop (mkF m 185 #[.val (.int x0)] []))
          exact J1185 (by rw [hj173]; simp only [own_f1_at173, if_neg hc3, if_pos hc4])
        · refine own_Goes.step (fun t k => XS.icmpYes X0.here hx rfl (pc0 := 182) (pc' := 197) rfl (hb hby d1_182) rfl (XT.ii_le_t hc4) (by decide) (by decide) k) ?_
          show own_Goes p e below s (own_F1 Z x0 h0) 0 0 (s₁.setTop (mkF m 197 #[.val (.int x0)] []))
          exact J1197 (by rw [hj173]; simp only [own_f1_at173, if_neg hc3, if_neg hc4])
    have J1161 : own_f1 x0 = own_f1_at161 x0 → own_Goes p e below s (own_F1 Z x0 h0) 0 0 (s₁.setTop (mkF m 161 #[.val (.int x0)] [])) := by
      intro hj161
      refine own_Goes.step (fun t k => XS.iloadN X0.here hx rfl (hb hby d1_161) rfl k) ?_
      show own_Goes p e below s (own_F1 Z x0 h0) 0 0 (s₁.setTop (mkF m 162 #[.val (.int x0)] [(.int x0)]))
      refine own_Goes.step (fun t k => X0.ldcI hx hown (mvT hZ (hw _ (List.mem_of_getElem? (i := 16) rfl))) rfl (hb hby d1_162) k) ?_
      show own_Goes p e below s (own_F1 Z x0 h0) 0 0 (s₁.setTop (mkF m 164 #[.val (.int x0)] [(.int (63744 : Int32)), (.int x0)]))
      by_cases hc5 : x0 < (63744 : Int32)
      · refine own_Goes.step (fun t k => XS.icmpYes X0.here hx rfl (pc0 := 164) (pc' := 173) rfl (hb hby d1_164) rfl (XT.ii_lt_t hc5) (by decide) (by decide) k) ?_
        show own_Goes p e below s (own_F1 Z x0 h0) 0 0 (s₁.setTop (mkF m 173 #[.val (.int x0)] []))
        exact J1173 (by rw [hj161]; simp only [own_f1_at161, if_pos hc5])
      · refine own_Goes.step (fun t k => XS.icmpNo X0.here hx rfl (hb hby d1_164) rfl (XT.ii_lt_f hc5) k) ?_
        show own_Goes p e below s (own_F1 Z x0 h0) 0 0 (s₁.setTop (mkF m 167 #[.val (.int x0)] []))
        refine own_Goes.step (fun t k => XS.iloadN X0.here hx rfl (hb hby d1_167) rfl k) ?_
        show own_Goes p e below s (own_F1 Z x0 h0) 0 0 (s₁.setTop (mkF m 168 #[.val (.int x0)] [(.int x0)]))
        refine own_Goes.step (fun t k => X0.ldcI hx hown (mvT hZ (hw _ (List.mem_of_getElem? (i := 24) rfl))) rfl (hb hby d1_168) k) ?_
        show own_Goes p e below s (own_F1 Z x0 h0) 0 0 (s₁.setTop (mkF m 170 #[.val (.int x0)] [(.int (64975 : Int32)), (.int x0)]))
        by_cases hc6 : (64975 : Int32) < x0
        · refine own_Goes.step (fun t k => XS.icmpNo X0.here hx rfl (hb hby d1_170) rfl (XT.ii_le_f hc6) k) ?_
          show own_Goes p e below s (own_F1 Z x0 h0) 0 0 (s₁.setTop (mkF m 173 #[.val (.int x0)] []))
          exact J1173 (by rw [hj161]; simp only [own_f1_at161, if_neg hc5, if_pos hc6])
        · refine own_Goes.step (fun t k => XS.icmpYes X0.here hx rfl (pc0 := 170) (pc' := 197) rfl (hb hby d1_170) rfl (XT.ii_le_t hc6) (by decide) (by decide) k) ?_
          show own_Goes p e below s (own_F1 Z x0 h0) 0 0 (s₁.setTop (mkF m 197 #[.val (.int x0)] []))
          exact J1197 (by rw [hj161]; simp only [own_f1_at161, if_neg hc5, if_neg hc6])
    have J1148 : own_f1 x0 = own_f1_at148 x0 → own_Goes p e below s (own_F1 Z x0 h0) 0 0 (s₁.setTop (mkF m 148 #[.val (.int x0)] [])) := by
      intro hj148
      refine own_Goes.step (fun t k => XS.iloadN X0.here hx rfl (hb hby d1_148) rfl k) ?_
      show own_Goes p e below s (own_F1 Z x0 h0) 0 0 (s₁.setTop (mkF m 149 #[.val (.int x0)] [(.int x0)]))
      refine own_Goes.step (fun t k => XT.sipushV X0.here hx rfl (12289 : Int32) (hb hby d1_149) (by decide) k) ?_
      show own_Goes p e below s (own_F1 Z x0 h0) 0 0 (s₁.setTop (mkF m 152 #[.val (.int x0)] [(.int (12289 : Int32)), (.int x0)]))
      by_cases hc7 : x0 < (12289 : Int32)
      · refine own_Goes.step (fun t k => XS.icmpYes X0.here hx rfl (pc0 := 152) (pc' := 161) rfl (hb hby d1_152) rfl (XT.ii_lt_t hc7) (by decide) (by decide) k) ?_
        show own_Goes p e below s (own_F1 Z x0 h0) 0 0 (s₁.setTop (mkF m 161 #[.val (.int x0)] []))
        exact J1161 (by rw [hj148]; simp only [own_f1_at148, if_pos hc7])
      · refine own_Goes.step (fun t k => XS.icmpNo X0.here hx rfl (hb hby d1_152) rfl (XT.ii_lt_f hc7) k) ?_
        show own_Goes p e below s (own_F1 Z x0 h0) 0 0 (s₁.setTop (mkF m 155 #[.val (.int x0)] []))
        refine own_Goes.step (fun t k => XS.iloadN X0.here hx rfl (hb hby d1_155) rfl k) ?_
        show own_Goes p e below s (own_F1 Z x0 h0) 0 0 (s₁.setTop (mkF m 156 #[.val (.int x0)] [(.int x0)]))
        refine own_Goes.step (fun t k => X0.ldcI hx hown (mvT hZ (hw _ (List.mem_of_getElem? (i := 23) rfl))) rfl (hb hby d1_156) k) ?_
        show own_Goes p e below s (own_F1 Z x0 h0) 0 0 (s₁.setTop (mkF m 158 #[.val (.int x0)] [(.int (55295 : Int32)), (.int x0)]))
        by_cases hc8 : (55295 : Int32) < x0
        · refine own_Goes.step (fun t k => XS.icmpNo X0.here hx rfl (hb hby d1_158) rfl (XT.ii_le_f hc8) k) ?_
          show own_Goes p e below s (own_F1 Z x0 h0) 0 0 (s₁.setTop (mkF m 161 #[.val (.int x0)] []))
          exact J1161 (by rw [hj148]; simp only [own_f1_at148, if_neg hc7, if_pos hc8])
        · refine own_Goes.step (fun t k => XS.icmpYes X0.here hx rfl (pc0 := 158) (pc' := 197) rfl (hb hby d1_158) rfl (XT.ii_le_t hc8) (by decide) (by decide) k) ?_
          show own_Goes p e below s (own_F1 Z x0 h0) 0 0 (s₁.setTop (mkF m 197 #[.val (.int x0)] []))
          exact J1197 (by rw [hj148]; simp only [own_f1_at148, if_neg hc7, if_neg hc8])
    have J1134 : own_f1 x0 = own_f1_at134 x0 → own_Goes p e below s (own_F1 Z x0 h0) 0 0 (s₁.setTop (mkF m 134 #[.val (.int x0)] [])) := by
      intro hj134
      refine own_Goes.step (fun t k => XS.iloadN X0.here hx rfl (hb hby d1_134) rfl k) ?_
      show own_Goes p e below s (own_F1 Z x0 h0) 0 0 (s₁.setTop (mkF m 135 #[.val (.int x0)] [(.int x0)]))
      refine own_Goes.step (fun t k => XT.sipushV X0.here hx rfl (11264 : Int32) (hb hby d1_135) (by decide) k) ?_
      show own_Goes p e below s (own_F1 Z x0 h0) 0 0 (s₁.setTop (mkF m 138 #[.val (.int x0)] [(.int (11264 : Int32)), (.int x0)]))
      by_cases hc9 : x0 < (11264 : Int32)
      · refine own_Goes.step (fun t k => XS.icmpYes X0.here hx rfl (pc0 := 138) (pc' := 148) rfl (hb hby d1_138) rfl (XT.ii_lt_t hc9) (by decide) (by decide) k) ?_
        show own_Goes p e below s (own_F1 Z x0 h0) 0 0 (s₁.setTop (mkF m 148 #[.val (.int x0)] []))
        exact J1148 (by rw [hj134]; simp only [own_f1_at134, if_pos hc9])
      · refine own_Goes.step (fun t k => XS.icmpNo X0.here hx rfl (hb hby d1_138) rfl (XT.ii_lt_f hc9) k) ?_
        show own_Goes p e below s (own_F1 Z x0 h0) 0 0 (s₁.setTop (mkF m 141 #[.val (.int x0)] []))
        refine own_Goes.step (fun t k => XS.iloadN X0.here hx rfl (hb hby d1_141) rfl k) ?_
        show own_Goes p e below s (own_F1 Z x0 h0) 0 0 (s₁.setTop (mkF m 142 #[.val (.int x0)] [(.int x0)]))
        refine own_Goes.step (fun t k => XT.sipushV X0.here hx rfl (12271 : Int32) (hb hby d1_142) (by decide) k) ?_
        show own_Goes p e below s (own_F1 Z x0 h0) 0 0 (s₁.setTop (mkF m 145 #[.val (.int x0)] [(.int (12271 : Int32)), (.int x0)]))
        by_cases hc10 : (12271 : Int32) < x0
        · refine own_Goes.step (fun t k => XS.icmpNo X0.here hx rfl (hb hby d1_145) rfl (XT.ii_le_f hc10) k) ?_
          show own_Goes p e below s (own_F1 Z x0 h0) 0 0 (s₁.setTop (mkF m 148 #[.val (.int x0)] []))
          exact J1148 (by rw [hj134]; simp only [own_f1_at134, if_neg hc9, if_pos hc10])
        · refine own_Goes.step (fun t k => XS.icmpYes X0.here hx rfl (pc0 := 145) (pc' := 197) rfl (hb hby d1_145) rfl (XT.ii_le_t hc10) (by decide) (by decide) k) ?_
          show own_Goes p e below s (own_F1 Z x0 h0) 0 0 (s₁.setTop (mkF m 197 #[.val (.int x0)] []))
          exact J1197 (by rw [hj134]; simp only [own_f1_at134, if_neg hc9, if_neg hc10])
    have J1120 : own_f1 x0 = own_f1_at120 x0 → own_Goes p e below s (own_F1 Z x0 h0) 0 0 (s₁.setTop (mkF m 120 #[.val (.int x0)] [])) := by
      intro hj120
      refine own_Goes.step (fun t k => XS.iloadN X0.here hx rfl (hb hby d1_120) rfl k) ?_
      show own_Goes p e below s (own_F1 Z x0 h0) 0 0 (s₁.setTop (mkF m 121 #[.val (.int x0)] [(.int x0)]))
      refine own_Goes.step (fun t k => XT.sipushV X0.here hx rfl (8304 : Int32) (hb hby d1_121) (by decide) k) ?_
      show own_Goes p e below s (own_F1 Z x0 h0) 0 0 (s₁.setTop (mkF m 124 #[.val (.int x0)] [(.int (8304 : Int32)), (.int x0)]))
      by_cases hc11 : x0 < (8304 : Int32)
      · refine own_Goes.step (fun t k => XS.icmpYes X0.here hx rfl (pc0 := 124) (pc' := 134) rfl (hb hby d1_124) rfl (XT.ii_lt_t hc11) (by decide) (by decide) k) ?_
        show own_Goes p e below s (own_F1 Z x0 h0) 0 0 (s₁.setTop (mkF m 134 #[.val (.int x0)] []))
        exact J1134 (by rw [hj120]; simp only [own_f1_at120, if_pos hc11])
      · refine own_Goes.step (fun t k => XS.icmpNo X0.here hx rfl (hb hby d1_124) rfl (XT.ii_lt_f hc11) k) ?_
        show own_Goes p e below s (own_F1 Z x0 h0) 0 0 (s₁.setTop (mkF m 127 #[.val (.int x0)] []))
        refine own_Goes.step (fun t k => XS.iloadN X0.here hx rfl (hb hby d1_127) rfl k) ?_
        show own_Goes p e below s (own_F1 Z x0 h0) 0 0 (s₁.setTop (mkF m 128 #[.val (.int x0)] [(.int x0)]))
        refine own_Goes.step (fun t k => XT.sipushV X0.here hx rfl (8591 : Int32) (hb hby d1_128) (by decide) k) ?_
        show own_Goes p e below s (own_F1 Z x0 h0) 0 0 (s₁.setTop (mkF m 131 #[.val (.int x0)] [(.int (8591 : Int32)), (.int x0)]))
        by_cases hc12 : (8591 : Int32) < x0
        · refine own_Goes.step (fun t k => XS.icmpNo X0.here hx rfl (hb hby d1_131) rfl (XT.ii_le_f hc12) k) ?_
          show own_Goes p e below s (own_F1 Z x0 h0) 0 0 (s₁.setTop (mkF m 134 #[.val (.int x0)] []))
          exact J1134 (by rw [hj120]; simp only [own_f1_at120, if_neg hc11, if_pos hc12])
        · refine own_Goes.step (fun t k => XS.icmpYes X0.here hx rfl (pc0 := 131) (pc' := 197) rfl (hb hby d1_131) rfl (XT.ii_le_t hc12) (by decide) (by decide) k) ?_
          show own_Goes p e below s (own_F1 Z x0 h0) 0 0 (s₁.setTop (mkF m 197 #[.val (.int x0)] []))
          exact J1197 (by rw [hj120]; simp only [own_f1_at120, if_neg hc11, if_neg hc12])
    have J1106 : own_f1 x0 = own_f1_at106 x0 → own_Goes p e below s (own_F1 Z x0 h0) 0 0 (s₁.setTop (mkF m 106 #[.val (.int x0)] [])) := by
      intro hj106
      refine own_Goes.step (fun t k => XS.iloadN X0.here hx rfl (hb hby d1_106) rfl k) ?_
      show own_Goes p e below s (own_F1 Z x0 h0) 0 0 (s₁.setTop (mkF m 107 #[.val (.int x0)] [(.int x0)]))
      refine own_Goes.step (fun t k => XT.sipushV X0.here hx rfl (8204 : Int32) (hb hby d1_107) (by decide) k) ?_
      show own_Goes p e below s (own_F1 Z x0 h0) 0 0 (s₁.setTop (mkF m 110 #[.val (.int x0)] [(.int (8204 : Int32)), (.int x0)]))
      by_cases hc13 : x0 < (8204 : Int32)
      · refine own_Goes.step (fun t k => XS.icmpYes X0.here hx rfl (pc0 := 110) (pc' := 120) rfl (hb hby d1_110) rfl (XT.ii_lt_t hc13) (by decide) (by decide) k) ?_
        show own_Goes p e below s (own_F1 Z x0 h0) 0 0 (s₁.setTop (mkF m 120 #[.val (.int x0)] []))
        exact J1120 (by rw [hj106]; simp only [own_f1_at106, if_pos hc13])
      · refine own_Goes.step (fun t k => XS.icmpNo X0.here hx rfl (hb hby d1_110) rfl (XT.ii_lt_f hc13) k) ?_
        show own_Goes p e below s (own_F1 Z x0 h0) 0 0 (s₁.setTop (mkF m 113 #[.val (.int x0)] []))
        refine own_Goes.step (fun t k => XS.iloadN X0.here hx rfl (hb hby d1_113) rfl k) ?_
        show own_Goes p e below s (own_F1 Z x0 h0) 0 0 (s₁.setTop (mkF m 114 #[.val (.int x0)] [(.int x0)]))
        refine own_Goes.step (fun t k => XT.sipushV X0.here hx rfl (8205 : Int32) (hb hby d1_114) (by decide) k) ?_
        show own_Goes p e below s (own_F1 Z x0 h0) 0 0 (s₁.setTop (mkF m 117 #[.val (.int x0)] [(.int (8205 : Int32)), (.int x0)]))
        by_cases hc14 : (8205 : Int32) < x0
        · refine own_Goes.step (fun t k => XS.icmpNo X0.here hx rfl (hb hby d1_117) rfl (XT.ii_le_f hc14) k) ?_
          show own_Goes p e below s (own_F1 Z x0 h0) 0 0 (s₁.setTop (mkF m 120 #[.val (.int x0)] []))
          exact J1120 (by rw [hj106]; simp only [own_f1_at106, if_neg hc13, if_pos hc14])
        · refine own_Goes.step (fun t k => XS.icmpYes X0.here hx rfl (pc0 := 117) (pc' := 197) rfl (hb hby d1_117) rfl (XT.ii_le_t hc14) (by decide) (by decide) k) ?_
          show own_Goes p e below s (own_F1 Z x0 h0) 0 0 (s₁.setTop (mkF m 197 #[.val (.int x0)] []))
          exact J1197 (by rw [hj106]; simp only [own_f1_at106, if_neg hc13, if_neg hc14])
    have J1092 : own_f1 x0 = own_f1_at92 x0 → own_Goes p e below s (own_F1 Z x0 h0) 0 0 (s₁.setTop (mkF m 92 #[.val (.int x0)] [])) := by
      intro hj92
      refine own_Goes.step (fun t k => XS.iloadN X0.here hx rfl (hb hby d1_92) rfl k) ?_
      show own_Goes p e below s (own_F1 Z x0 h0) 0 0 (s₁.setTop (mkF m 93 #[.val (.int x0)] [(.int x0)]))
      refine own_Goes.step (fun t k => XT.sipushV X0.here hx rfl (895 : Int32) (hb hby d1_93) (by decide) k) ?_
      show own_Goes p e below s (own_F1 Z x0 h0) 0 0 (s₁.setTop (mkF m 96 #[.val (.int x0)] [(.int (895 : Int32)), (.int x0)]))
      by_cases hc15 : x0 < (895 : Int32)
      · refine own_Goes.step (fun t k => XS.icmpYes X0.here hx rfl (pc0 := 96) (pc' := 106) rfl (hb hby d1_96) rfl (XT.ii_lt_t hc15) (by decide) (by decide) k) ?_
        show own_Goes p e below s (own_F1 Z x0 h0) 0 0 (s₁.setTop (mkF m 106 #[.val (.int x0)] []))
        exact J1106 (by rw [hj92]; simp only [own_f1_at92, if_pos hc15])
      · refine own_Goes.step (fun t k => XS.icmpNo X0.here hx rfl (hb hby d1_96) rfl (XT.ii_lt_f hc15) k) ?_
        show own_Goes p e below s (own_F1 Z x0 h0) 0 0 (s₁.setTop (mkF m 99 #[.val (.int x0)] []))
        refine own_Goes.step (fun t k => XS.iloadN X0.here hx rfl (hb hby d1_99) rfl k) ?_
        show own_Goes p e below s (own_F1 Z x0 h0) 0 0 (s₁.setTop (mkF m 100 #[.val (.int x0)] [(.int x0)]))
        refine own_Goes.step (fun t k => XT.sipushV X0.here hx rfl (8191 : Int32) (hb hby d1_100) (by decide) k) ?_
        show own_Goes p e below s (own_F1 Z x0 h0) 0 0 (s₁.setTop (mkF m 103 #[.val (.int x0)] [(.int (8191 : Int32)), (.int x0)]))
        by_cases hc16 : (8191 : Int32) < x0
        · refine own_Goes.step (fun t k => XS.icmpNo X0.here hx rfl (hb hby d1_103) rfl (XT.ii_le_f hc16) k) ?_
          show own_Goes p e below s (own_F1 Z x0 h0) 0 0 (s₁.setTop (mkF m 106 #[.val (.int x0)] []))
          exact J1106 (by rw [hj92]; simp only [own_f1_at92, if_neg hc15, if_pos hc16])
        · refine own_Goes.step (fun t k => XS.icmpYes X0.here hx rfl (pc0 := 103) (pc' := 197) rfl (hb hby d1_103) rfl (XT.ii_le_t hc16) (by decide) (by decide) k) ?_
          show own_Goes p e below s (own_F1 Z x0 h0) 0 0 (s₁.setTop (mkF m 197 #[.val (.int x0)] []))
          exact J1197 (by rw [hj92]; simp only [own_f1_at92, if_neg hc15, if_neg hc16])
    have J1078 : own_f1 x0 = own_f1_at78 x0 → own_Goes p e below s (own_F1 Z x0 h0) 0 0 (s₁.setTop (mkF m 78 #[.val (.int x0)] [])) := by
      intro hj78
      refine own_Goes.step (fun t k => XS.iloadN X0.here hx rfl (hb hby d1_78) rfl k) ?_
      show own_Goes p e below s (own_F1 Z x0 h0) 0 0 (s₁.setTop (mkF m 79 #[.val (.int x0)] [(.int x0)]))
      refine own_Goes.step (fun t k => XT.sipushV X0.here hx rfl (880 : Int32) (hb hby d1_79) (by decide) k) ?_
      show own_Goes p e below s (own_F1 Z x0 h0) 0 0 (s₁.setTop (mkF m 82 #[.val (.int x0)] [(.int (880 : Int32)), (.int x0)]))
      by_cases hc17 : x0 < (880 : Int32)
      · refine own_Goes.step (fun t k => XS.icmpYes X0.here hx rfl (pc0 := 82) (pc' := 92) rfl (hb hby d1_82) rfl (XT.ii_lt_t hc17) (by decide) (by decide) k) ?_
        show own_Goes p e below s (own_F1 Z x0 h0) 0 0 (s₁.setTop (mkF m 92 #[.val (.int x0)] []))
        exact J1092 (by rw [hj78]; simp only [own_f1_at78, if_pos hc17])
      · refine own_Goes.step (fun t k => XS.icmpNo X0.here hx rfl (hb hby d1_82) rfl (XT.ii_lt_f hc17) k) ?_
        show own_Goes p e below s (own_F1 Z x0 h0) 0 0 (s₁.setTop (mkF m 85 #[.val (.int x0)] []))
        refine own_Goes.step (fun t k => XS.iloadN X0.here hx rfl (hb hby d1_85) rfl k) ?_
        show own_Goes p e below s (own_F1 Z x0 h0) 0 0 (s₁.setTop (mkF m 86 #[.val (.int x0)] [(.int x0)]))
        refine own_Goes.step (fun t k => XT.sipushV X0.here hx rfl (893 : Int32) (hb hby d1_86) (by decide) k) ?_
        show own_Goes p e below s (own_F1 Z x0 h0) 0 0 (s₁.setTop (mkF m 89 #[.val (.int x0)] [(.int (893 : Int32)), (.int x0)]))
        by_cases hc18 : (893 : Int32) < x0
        · refine own_Goes.step (fun t k => XS.icmpNo X0.here hx rfl (hb hby d1_89) rfl (XT.ii_le_f hc18) k) ?_
          show own_Goes p e below s (own_F1 Z x0 h0) 0 0 (s₁.setTop (mkF m 92 #[.val (.int x0)] []))
          exact J1092 (by rw [hj78]; simp only [own_f1_at78, if_neg hc17, if_pos hc18])
        · refine own_Goes.step (fun t k => XS.icmpYes X0.here hx rfl (pc0 := 89) (pc' := 197) rfl (hb hby d1_89) rfl (XT.ii_le_t hc18) (by decide) (by decide) k) ?_
          show own_Goes p e below s (own_F1 Z x0 h0) 0 0 (s₁.setTop (mkF m 197 #[.val (.int x0)] []))
          exact J1197 (by rw [hj78]; simp only [own_f1_at78, if_neg hc17, if_neg hc18])
    have J1064 : own_f1 x0 = own_f1_at64 x0 → own_Goes p e below s (own_F1 Z x0 h0) 0 0 (s₁.setTop (mkF m 64 #[.val (.int x0)] [])) := by
      intro hj64
      refine own_Goes.step (fun t k => XS.iloadN X0.here hx rfl (hb hby d1_64) rfl k) ?_
      show own_Goes p e below s (own_F1 Z x0 h0) 0 0 (s₁.setTop (mkF m 65 #[.val (.int x0)] [(.int x0)]))
      refine own_Goes.step (fun t k => XT.sipushV X0.here hx rfl (248 : Int32) (hb hby d1_65) (by decide) k) ?_
      show own_Goes p e below s (own_F1 Z x0 h0) 0 0 (s₁.setTop (mkF m 68 #[.val (.int x0)] [(.int (248 : Int32)), (.int x0)]))
      by_cases hc19 : x0 < (248 : Int32)
      · refine own_Goes.step (fun t k => XS.icmpYes X0.here hx rfl (pc0 := 68) (pc' := 78) rfl (hb hby d1_68) rfl (XT.ii_lt_t hc19) (by decide) (by decide) k) ?_
        show own_Goes p e below s (own_F1 Z x0 h0) 0 0 (s₁.setTop (mkF m 78 #[.val (.int x0)] []))
        exact J1078 (by rw [hj64]; simp only [own_f1_at64, if_pos hc19])
      · refine own_Goes.step (fun t k => XS.icmpNo X0.here hx rfl (hb hby d1_68) rfl (XT.ii_lt_f hc19) k) ?_
        show own_Goes p e below s (own_F1 Z x0 h0) 0 0 (s₁.setTop (mkF m 71 #[.val (.int x0)] []))
        refine own_Goes.step (fun t k => XS.iloadN X0.here hx rfl (hb hby d1_71) rfl k) ?_
        show own_Goes p e below s (own_F1 Z x0 h0) 0 0 (s₁.setTop (mkF m 72 #[.val (.int x0)] [(.int x0)]))
        refine own_Goes.step (fun t k => XT.sipushV X0.here hx rfl (767 : Int32) (hb hby d1_72) (by decide) k) ?_
        show own_Goes p e below s (own_F1 Z x0 h0) 0 0 (s₁.setTop (mkF m 75 #[.val (.int x0)] [(.int (767 : Int32)), (.int x0)]))
        by_cases hc20 : (767 : Int32) < x0
        · refine own_Goes.step (fun t k => XS.icmpNo X0.here hx rfl (hb hby d1_75) rfl (XT.ii_le_f hc20) k) ?_
          show own_Goes p e below s (own_F1 Z x0 h0) 0 0 (s₁.setTop (mkF m 78 #[.val (.int x0)] []))
          exact J1078 (by rw [hj64]; simp only [own_f1_at64, if_neg hc19, if_pos hc20])
        · refine own_Goes.step (fun t k => XS.icmpYes X0.here hx rfl (pc0 := 75) (pc' := 197) rfl (hb hby d1_75) rfl (XT.ii_le_t hc20) (by decide) (by decide) k) ?_
          show own_Goes p e below s (own_F1 Z x0 h0) 0 0 (s₁.setTop (mkF m 197 #[.val (.int x0)] []))
          exact J1197 (by rw [hj64]; simp only [own_f1_at64, if_neg hc19, if_neg hc20])
    have J1050 : own_f1 x0 = own_f1_at50 x0 → own_Goes p e below s (own_F1 Z x0 h0) 0 0 (s₁.setTop (mkF m 50 #[.val (.int x0)] [])) := by
      intro hj50
      refine own_Goes.step (fun t k => XS.iloadN X0.here hx rfl (hb hby d1_50) rfl k) ?_
      show own_Goes p e below s (own_F1 Z x0 h0) 0 0 (s₁.setTop (mkF m 51 #[.val (.int x0)] [(.int x0)]))
      refine own_Goes.step (fun t k => XT.sipushV X0.here hx rfl (216 : Int32) (hb hby d1_51) (by decide) k) ?_
      show own_Goes p e below s (own_F1 Z x0 h0) 0 0 (s₁.setTop (mkF m 54 #[.val (.int x0)] [(.int (216 : Int32)), (.int x0)]))
      by_cases hc21 : x0 < (216 : Int32)
      · refine own_Goes.step (fun t k => XS.icmpYes X0.here hx rfl (pc0 := 54) (pc' := 64) rfl (hb hby d1_54) rfl (XT.ii_lt_t hc21) (by decide) (by decide) k) ?_
        show own_Goes p e below s (own_F1 Z x0 h0) 0 0 (s₁.setTop (mkF m 64 #[.val (.int x0)] []))
        exact J1064 (by rw [hj50]; simp only [own_f1_at50, if_pos hc21])
      · refine own_Goes.step (fun t k => XS.icmpNo X0.here hx rfl (hb hby d1_54) rfl (XT.ii_lt_f hc21) k) ?_
        show own_Goes p e below s (own_F1 Z x0 h0) 0 0 (s₁.setTop (mkF m 57 #[.val (.int x0)] []))
        refine own_Goes.step (fun t k => XS.iloadN X0.here hx rfl (hb hby d1_57) rfl k) ?_
        show own_Goes p e below s (own_F1 Z x0 h0) 0 0 (s₁.setTop (mkF m 58 #[.val (.int x0)] [(.int x0)]))
        refine own_Goes.step (fun t k => XT.sipushV X0.here hx rfl (246 : Int32) (hb hby d1_58) (by decide) k) ?_
        show own_Goes p e below s (own_F1 Z x0 h0) 0 0 (s₁.setTop (mkF m 61 #[.val (.int x0)] [(.int (246 : Int32)), (.int x0)]))
        by_cases hc22 : (246 : Int32) < x0
        · refine own_Goes.step (fun t k => XS.icmpNo X0.here hx rfl (hb hby d1_61) rfl (XT.ii_le_f hc22) k) ?_
          show own_Goes p e below s (own_F1 Z x0 h0) 0 0 (s₁.setTop (mkF m 64 #[.val (.int x0)] []))
          exact J1064 (by rw [hj50]; simp only [own_f1_at50, if_neg hc21, if_pos hc22])
        · refine own_Goes.step (fun t k => XS.icmpYes X0.here hx rfl (pc0 := 61) (pc' := 197) rfl (hb hby d1_61) rfl (XT.ii_le_t hc22) (by decide) (by decide) k) ?_
          show own_Goes p e below s (own_F1 Z x0 h0) 0 0 (s₁.setTop (mkF m 197 #[.val (.int x0)] []))
          exact J1197 (by rw [hj50]; simp only [own_f1_at50, if_neg hc21, if_neg hc22])
    have J1036 : own_f1 x0 = own_f1_at36 x0 → own_Goes p e below s (own_F1 Z x0 h0) 0 0 (s₁.setTop (mkF m 36 #[.val (.int x0)] [])) := by
      intro hj36
      refine own_Goes.step (fun t k => XS.iloadN X0.here hx rfl (hb hby d1_36) rfl k) ?_
      show own_Goes p e below s (own_F1 Z x0 h0) 0 0 (s₁.setTop (mkF m 37 #[.val (.int x0)] [(.int x0)]))
      refine own_Goes.step (fun t k => XT.sipushV X0.here hx rfl (192 : Int32) (hb hby d1_37) (by decide) k) ?_
      show own_Goes p e below s (own_F1 Z x0 h0) 0 0 (s₁.setTop (mkF m 40 #[.val (.int x0)] [(.int (192 : Int32)), (.int x0)]))
      by_cases hc23 : x0 < (192 : Int32)
      · refine own_Goes.step (fun t k => XS.icmpYes X0.here hx rfl (pc0 := 40) (pc' := 50) rfl (hb hby d1_40) rfl (XT.ii_lt_t hc23) (by decide) (by decide) k) ?_
        show own_Goes p e below s (own_F1 Z x0 h0) 0 0 (s₁.setTop (mkF m 50 #[.val (.int x0)] []))
        exact J1050 (by rw [hj36]; simp only [own_f1_at36, if_pos hc23])
      · refine own_Goes.step (fun t k => XS.icmpNo X0.here hx rfl (hb hby d1_40) rfl (XT.ii_lt_f hc23) k) ?_
        show own_Goes p e below s (own_F1 Z x0 h0) 0 0 (s₁.setTop (mkF m 43 #[.val (.int x0)] []))
        refine own_Goes.step (fun t k => XS.iloadN X0.here hx rfl (hb hby d1_43) rfl k) ?_
        show own_Goes p e below s (own_F1 Z x0 h0) 0 0 (s₁.setTop (mkF m 44 #[.val (.int x0)] [(.int x0)]))
        refine own_Goes.step (fun t k => XT.sipushV X0.here hx rfl (214 : Int32) (hb hby d1_44) (by decide) k) ?_
        show own_Goes p e below s (own_F1 Z x0 h0) 0 0 (s₁.setTop (mkF m 47 #[.val (.int x0)] [(.int (214 : Int32)), (.int x0)]))
        by_cases hc24 : (214 : Int32) < x0
        · refine own_Goes.step (fun t k => XS.icmpNo X0.here hx rfl (hb hby d1_47) rfl (XT.ii_le_f hc24) k) ?_
          show own_Goes p e below s (own_F1 Z x0 h0) 0 0 (s₁.setTop (mkF m 50 #[.val (.int x0)] []))
          exact J1050 (by rw [hj36]; simp only [own_f1_at36, if_neg hc23, if_pos hc24])
        · refine own_Goes.step (fun t k => XS.icmpYes X0.here hx rfl (pc0 := 47) (pc' := 197) rfl (hb hby d1_47) rfl (XT.ii_le_t hc24) (by decide) (by decide) k) ?_
          show own_Goes p e below s (own_F1 Z x0 h0) 0 0 (s₁.setTop (mkF m 197 #[.val (.int x0)] []))
          exact J1197 (by rw [hj36]; simp only [own_f1_at36, if_neg hc23, if_neg hc24])
    have J1018 : own_f1 x0 = own_f1_at18 x0 → own_Goes p e below s (own_F1 Z x0 h0) 0 0 (s₁.setTop (mkF m 18 #[.val (.int x0)] [])) := by
      intro hj18
      refine own_Goes.step (fun t k => XS.iloadN X0.here hx rfl (hb hby d1_18) rfl k) ?_
      show own_Goes p e below s (own_F1 Z x0 h0) 0 0 (s₁.setTop (mkF m 19 #[.val (.int x0)] [(.int x0)]))
      refine own_Goes.step (fun t k => XT.bipushV X0.here hx rfl (95 : Int32) (hb hby d1_19) (by decide) k) ?_
      show own_Goes p e below s (own_F1 Z x0 h0) 0 0 (s₁.setTop (mkF m 21 #[.val (.int x0)] [(.int (95 : Int32)), (.int x0)]))
      by_cases hc25 : x0 = (95 : Int32)
      · refine own_Goes.step (fun t k => XS.icmpYes X0.here hx rfl (pc0 := 21) (pc' := 197) rfl (hb hby d1_21) rfl (XT.ii_eq_t hc25) (by decide) (by decide) k) ?_
        show own_Goes p e below s (own_F1 Z x0 h0) 0 0 (s₁.setTop (mkF m 197 #[.val (.int x0)] []))
        exact J1197 (by rw [hj18]; simp only [own_f1_at18, if_pos hc25])
      · refine own_Goes.step (fun t k => XS.icmpNo X0.here hx rfl (hb hby d1_21) rfl (XT.ii_eq_f hc25) k) ?_
        show own_Goes p e below s (own_F1 Z x0 h0) 0 0 (s₁.setTop (mkF m 24 #[.val (.int x0)] []))
        refine own_Goes.step (fun t k => XS.iloadN X0.here hx rfl (hb hby d1_24) rfl k) ?_
        show own_Goes p e below s (own_F1 Z x0 h0) 0 0 (s₁.setTop (mkF m 25 #[.val (.int x0)] [(.int x0)]))
        refine own_Goes.step (fun t k => XT.bipushV X0.here hx rfl (97 : Int32) (hb hby d1_25) (by decide) k) ?_
        show own_Goes p e below s (own_F1 Z x0 h0) 0 0 (s₁.setTop (mkF m 27 #[.val (.int x0)] [(.int (97 : Int32)), (.int x0)]))
        by_cases hc26 : x0 < (97 : Int32)
        · refine own_Goes.step (fun t k => XS.icmpYes X0.here hx rfl (pc0 := 27) (pc' := 36) rfl (hb hby d1_27) rfl (XT.ii_lt_t hc26) (by decide) (by decide) k) ?_
          show own_Goes p e below s (own_F1 Z x0 h0) 0 0 (s₁.setTop (mkF m 36 #[.val (.int x0)] []))
          exact J1036 (by rw [hj18]; simp only [own_f1_at18, if_neg hc25, if_pos hc26])
        · refine own_Goes.step (fun t k => XS.icmpNo X0.here hx rfl (hb hby d1_27) rfl (XT.ii_lt_f hc26) k) ?_
          show own_Goes p e below s (own_F1 Z x0 h0) 0 0 (s₁.setTop (mkF m 30 #[.val (.int x0)] []))
          refine own_Goes.step (fun t k => XS.iloadN X0.here hx rfl (hb hby d1_30) rfl k) ?_
          show own_Goes p e below s (own_F1 Z x0 h0) 0 0 (s₁.setTop (mkF m 31 #[.val (.int x0)] [(.int x0)]))
          refine own_Goes.step (fun t k => XT.bipushV X0.here hx rfl (122 : Int32) (hb hby d1_31) (by decide) k) ?_
          show own_Goes p e below s (own_F1 Z x0 h0) 0 0 (s₁.setTop (mkF m 33 #[.val (.int x0)] [(.int (122 : Int32)), (.int x0)]))
          by_cases hc27 : (122 : Int32) < x0
          · refine own_Goes.step (fun t k => XS.icmpNo X0.here hx rfl (hb hby d1_33) rfl (XT.ii_le_f hc27) k) ?_
            show own_Goes p e below s (own_F1 Z x0 h0) 0 0 (s₁.setTop (mkF m 36 #[.val (.int x0)] []))
            exact J1036 (by rw [hj18]; simp only [own_f1_at18, if_neg hc25, if_neg hc26, if_pos hc27])
          · refine own_Goes.step (fun t k => XS.icmpYes X0.here hx rfl (pc0 := 33) (pc' := 197) rfl (hb hby d1_33) rfl (XT.ii_le_t hc27) (by decide) (by decide) k) ?_
            show own_Goes p e below s (own_F1 Z x0 h0) 0 0 (s₁.setTop (mkF m 197 #[.val (.int x0)] []))
            exact J1197 (by rw [hj18]; simp only [own_f1_at18, if_neg hc25, if_neg hc26, if_neg hc27])
    refine own_Goes.step (fun t k => XS.iloadN X0.here hx rfl (hb hby d1_0) rfl k) ?_
    show own_Goes p e below s (own_F1 Z x0 h0) 0 0 (s₁.setTop (mkF m 1 #[.val (.int x0)] [(.int x0)]))
    refine own_Goes.step (fun t k => XT.bipushV X0.here hx rfl (58 : Int32) (hb hby d1_1) (by decide) k) ?_
    show own_Goes p e below s (own_F1 Z x0 h0) 0 0 (s₁.setTop (mkF m 3 #[.val (.int x0)] [(.int (58 : Int32)), (.int x0)]))
    by_cases hc28 : x0 = (58 : Int32)
    · refine own_Goes.step (fun t k => XS.icmpYes X0.here hx rfl (pc0 := 3) (pc' := 197) rfl (hb hby d1_3) rfl (XT.ii_eq_t hc28) (by decide) (by decide) k) ?_
      show own_Goes p e below s (own_F1 Z x0 h0) 0 0 (s₁.setTop (mkF m 197 #[.val (.int x0)] []))
      exact J1197 (by simp only [own_f1, if_pos hc28])
    · refine own_Goes.step (fun t k => XS.icmpNo X0.here hx rfl (hb hby d1_3) rfl (XT.ii_eq_f hc28) k) ?_
      show own_Goes p e below s (own_F1 Z x0 h0) 0 0 (s₁.setTop (mkF m 6 #[.val (.int x0)] []))
      refine own_Goes.step (fun t k => XS.iloadN X0.here hx rfl (hb hby d1_6) rfl k) ?_
      show own_Goes p e below s (own_F1 Z x0 h0) 0 0 (s₁.setTop (mkF m 7 #[.val (.int x0)] [(.int x0)]))
      refine own_Goes.step (fun t k => XT.bipushV X0.here hx rfl (65 : Int32) (hb hby d1_7) (by decide) k) ?_
      show own_Goes p e below s (own_F1 Z x0 h0) 0 0 (s₁.setTop (mkF m 9 #[.val (.int x0)] [(.int (65 : Int32)), (.int x0)]))
      by_cases hc29 : x0 < (65 : Int32)
      · refine own_Goes.step (fun t k => XS.icmpYes X0.here hx rfl (pc0 := 9) (pc' := 18) rfl (hb hby d1_9) rfl (XT.ii_lt_t hc29) (by decide) (by decide) k) ?_
        show own_Goes p e below s (own_F1 Z x0 h0) 0 0 (s₁.setTop (mkF m 18 #[.val (.int x0)] []))
        exact J1018 (by simp only [own_f1, if_neg hc28, if_pos hc29])
      · refine own_Goes.step (fun t k => XS.icmpNo X0.here hx rfl (hb hby d1_9) rfl (XT.ii_lt_f hc29) k) ?_
        show own_Goes p e below s (own_F1 Z x0 h0) 0 0 (s₁.setTop (mkF m 12 #[.val (.int x0)] []))
        refine own_Goes.step (fun t k => XS.iloadN X0.here hx rfl (hb hby d1_12) rfl k) ?_
        show own_Goes p e below s (own_F1 Z x0 h0) 0 0 (s₁.setTop (mkF m 13 #[.val (.int x0)] [(.int x0)]))
        refine own_Goes.step (fun t k => XT.bipushV X0.here hx rfl (90 : Int32) (hb hby d1_13) (by decide) k) ?_
        show own_Goes p e below s (own_F1 Z x0 h0) 0 0 (s₁.setTop (mkF m 15 #[.val (.int x0)] [(.int (90 : Int32)), (.int x0)]))
        by_cases hc30 : (90 : Int32) < x0
        · refine own_Goes.step (fun t k => XS.icmpNo X0.here hx rfl (hb hby d1_15) rfl (XT.ii_le_f hc30) k) ?_
          show own_Goes p e below s (own_F1 Z x0 h0) 0 0 (s₁.setTop (mkF m 18 #[.val (.int x0)] []))
          exact J1018 (by simp only [own_f1, if_neg hc28, if_neg hc29, if_pos hc30])
        · refine own_Goes.step (fun t k => XS.icmpYes X0.here hx rfl (pc0 := 15) (pc' := 197) rfl (hb hby d1_15) rfl (XT.ii_le_t hc30) (by decide) (by decide) k) ?_
          show own_Goes p e below s (own_F1 Z x0 h0) 0 0 (s₁.setTop (mkF m 197 #[.val (.int x0)] []))
          exact J1197 (by simp only [own_f1, if_neg hc28, if_neg hc29, if_neg hc30])
  obtain ⟨t2, o2, q1, q2, q3, q4⟩ := hgo
  exact ⟨t2, o2, castTop (ef_1 m x0) q1, q2, q3, q4⟩
def own_ix (x1 : Int32) : Nat := ((x1 &&& (2147483647 : Int32)) % (34 : Int32)).toInt.toNat
theorem own_ixb (x1 : Int32) : 0 ≤ ((x1 &&& (2147483647 : Int32)) % (34 : Int32)).toInt ∧ ((x1 &&& (2147483647 : Int32)) % (34 : Int32)).toInt < 34 := by
  have a : (x1 &&& (2147483647 : Int32)).toInt = x1.toInt % 2 ^ 31 := Jvm.Kit.i32_mask x1 _ (k := 31) (by decide) (by decide)
  have b : ((x1 &&& (2147483647 : Int32)) % (34 : Int32)).toInt = (x1 &&& (2147483647 : Int32)).toInt % 34 := Jvm.Kit.i32_rem_nonneg (by omega)
  omega
theorem own_ixe (x1 : Int32) : ((x1 &&& (2147483647 : Int32)) % (34 : Int32)).toInt = own_ix x1 := by
  have h := own_ixb x1
  unfold own_ix
  omega
theorem own_ixl (x1 : Int32) : own_ix x1 < 34 := by
  have h := own_ixb x1
  unfold own_ix
  omega
theorem pn_0 : plainName "com/example/arbora/arbora/XmlSyntaxIsNameStartCharPinLaw" = true := by first | (simp [plainName, overriddenIn]; done) | decide +kernel
theorem pd_0 : parseMethodDescriptor "(III)Z" = some ⟨[.int, .int, .int], (some .boolean)⟩ := by decide +kernel
theorem ef_0 (m : MethodId) (x0 : Int32) (x1 : Int32) (x2 : Int32) : entryFrame m #[(.int x0), (.int x1), (.int x2)] maxLocals = mkF m 0 #[.val (.int x0), .val (.int x1), .val (.int x2), .unset, .unset, .unset, .unset, .unset, .unset] [] := by first | (simp [entryFrame, mkF, argsToLocals, Value.category, maxLocals]; done) | rfl
def own_f0_1 (x0 : Int32) (x1 : Int32) (x2 : Int32) (z : Int32) : Int32 := (if (own_f1 x0) = (own_f2 x0) then (1 : Int32) else (0 : Int32))
def own_f0_2 (x0 : Int32) (x1 : Int32) (x2 : Int32) (z : Int32) : Int32 := (if (own_f1 (x0 &&& (1048575 : Int32))) = (own_f2 (x0 &&& (1048575 : Int32))) then (1 : Int32) else (0 : Int32))
def own_f0_3 (x0 : Int32) (x1 : Int32) (x2 : Int32) (z : Int32) : Int32 := (if (own_f1 (z + ((x2 &&& (3 : Int32)) - (1 : Int32)))) = (own_f2 (z + ((x2 &&& (3 : Int32)) - (1 : Int32)))) then (1 : Int32) else (0 : Int32))
def own_f0 (x0 : Int32) (x1 : Int32) (x2 : Int32) (z : Int32) : Int32 := (if (own_f0_1 x0 x1 x2 z) = (0 : Int32) then (0 : Int32) else (if (own_f0_2 x0 x1 x2 z) = (0 : Int32) then (0 : Int32) else (if (own_f0_3 x0 x1 x2 z) = (0 : Int32) then (0 : Int32) else (1 : Int32))))
theorem own_s_own_f2_at222 (c : Int32) : own_f2_at222 c = if c.toInt ≤ 65533 then 1 else 0 := by
  unfold own_f2_at222
  simp only [own_f2_at232, own_lt32, own_eq32, Int32.reduceToInt]
  repeat' split
  all_goals first | rfl | (exfalso; omega)
theorem own_s_own_f2_at214 (c : Int32) : own_f2_at214 c = if (65008 ≤ c.toInt ∧ c.toInt ≤ 65533) then 1 else 0 := by
  unfold own_f2_at214
  simp only [own_s_own_f2_at222, own_lt32, own_eq32, Int32.reduceToInt]
  repeat' split
  all_goals first | rfl | (exfalso; omega)
theorem own_s_own_f2_at206 (c : Int32) : own_f2_at206 c = if c.toInt ≤ 64975 ∨ (65008 ≤ c.toInt ∧ c.toInt ≤ 65533) then 1 else 0 := by
  unfold own_f2_at206
  simp only [own_s_own_f2_at214, own_lt32, own_eq32, Int32.reduceToInt]
  repeat' split
  all_goals first | rfl | (exfalso; omega)
theorem own_s_own_f2_at198 (c : Int32) : own_f2_at198 c = if (63744 ≤ c.toInt ∧ c.toInt ≤ 64975) ∨ (65008 ≤ c.toInt ∧ c.toInt ≤ 65533) then 1 else 0 := by
  unfold own_f2_at198
  simp only [own_s_own_f2_at206, own_lt32, own_eq32, Int32.reduceToInt]
  repeat' split
  all_goals first | rfl | (exfalso; omega)
theorem own_s_own_f2_at190 (c : Int32) : own_f2_at190 c = if c.toInt ≤ 55295 ∨ (63744 ≤ c.toInt ∧ c.toInt ≤ 64975) ∨ (65008 ≤ c.toInt ∧ c.toInt ≤ 65533) then 1 else 0 := by
  unfold own_f2_at190
  simp only [own_s_own_f2_at198, own_lt32, own_eq32, Int32.reduceToInt]
  repeat' split
  all_goals first | rfl | (exfalso; omega)
theorem own_s_own_f2_at181 (c : Int32) : own_f2_at181 c = if (12289 ≤ c.toInt ∧ c.toInt ≤ 55295) ∨ (63744 ≤ c.toInt ∧ c.toInt ≤ 64975) ∨ (65008 ≤ c.toInt ∧ c.toInt ≤ 65533) then 1 else 0 := by
  unfold own_f2_at181
  simp only [own_s_own_f2_at190, own_lt32, own_eq32, Int32.reduceToInt]
  repeat' split
  all_goals first | rfl | (exfalso; omega)
theorem own_s_own_f2_at172 (c : Int32) : own_f2_at172 c = if c.toInt ≤ 12271 ∨ (12289 ≤ c.toInt ∧ c.toInt ≤ 55295) ∨ (63744 ≤ c.toInt ∧ c.toInt ≤ 64975) ∨ (65008 ≤ c.toInt ∧ c.toInt ≤ 65533) then 1 else 0 := by
  unfold own_f2_at172
  simp only [own_s_own_f2_at181, own_lt32, own_eq32, Int32.reduceToInt]
  repeat' split
  all_goals first | rfl | (exfalso; omega)
theorem own_s_own_f2_at163 (c : Int32) : own_f2_at163 c = if (11264 ≤ c.toInt ∧ c.toInt ≤ 12271) ∨ (12289 ≤ c.toInt ∧ c.toInt ≤ 55295) ∨ (63744 ≤ c.toInt ∧ c.toInt ≤ 64975) ∨ (65008 ≤ c.toInt ∧ c.toInt ≤ 65533) then 1 else 0 := by
  unfold own_f2_at163
  simp only [own_s_own_f2_at172, own_lt32, own_eq32, Int32.reduceToInt]
  repeat' split
  all_goals first | rfl | (exfalso; omega)
theorem own_s_own_f2_at154 (c : Int32) : own_f2_at154 c = if c.toInt ≤ 8591 ∨ (11264 ≤ c.toInt ∧ c.toInt ≤ 12271) ∨ (12289 ≤ c.toInt ∧ c.toInt ≤ 55295) ∨ (63744 ≤ c.toInt ∧ c.toInt ≤ 64975) ∨ (65008 ≤ c.toInt ∧ c.toInt ≤ 65533) then 1 else 0 := by
  unfold own_f2_at154
  simp only [own_s_own_f2_at163, own_lt32, own_eq32, Int32.reduceToInt]
  repeat' split
  all_goals first | rfl | (exfalso; omega)
theorem own_s_own_f2_at145 (c : Int32) : own_f2_at145 c = if (8304 ≤ c.toInt ∧ c.toInt ≤ 8591) ∨ (11264 ≤ c.toInt ∧ c.toInt ≤ 12271) ∨ (12289 ≤ c.toInt ∧ c.toInt ≤ 55295) ∨ (63744 ≤ c.toInt ∧ c.toInt ≤ 64975) ∨ (65008 ≤ c.toInt ∧ c.toInt ≤ 65533) then 1 else 0 := by
  unfold own_f2_at145
  simp only [own_s_own_f2_at154, own_lt32, own_eq32, Int32.reduceToInt]
  repeat' split
  all_goals first | rfl | (exfalso; omega)
theorem own_s_own_f2_at129 (c : Int32) : own_f2_at129 c = if (8204 ≤ c.toInt ∧ c.toInt ≤ 8205) ∨ (8304 ≤ c.toInt ∧ c.toInt ≤ 8591) ∨ (11264 ≤ c.toInt ∧ c.toInt ≤ 12271) ∨ (12289 ≤ c.toInt ∧ c.toInt ≤ 55295) ∨ (63744 ≤ c.toInt ∧ c.toInt ≤ 64975) ∨ (65008 ≤ c.toInt ∧ c.toInt ≤ 65533) then 1 else 0 := by
  unfold own_f2_at129
  simp only [own_f2_at143, own_s_own_f2_at145, own_lt32, own_eq32, Int32.reduceToInt]
  repeat' split
  all_goals first | rfl | (exfalso; omega)
theorem own_s_own_f2_at120 (c : Int32) : own_f2_at120 c = if c.toInt ≤ 8191 ∨ (8204 ≤ c.toInt ∧ c.toInt ≤ 8205) ∨ (8304 ≤ c.toInt ∧ c.toInt ≤ 8591) ∨ (11264 ≤ c.toInt ∧ c.toInt ≤ 12271) ∨ (12289 ≤ c.toInt ∧ c.toInt ≤ 55295) ∨ (63744 ≤ c.toInt ∧ c.toInt ≤ 64975) ∨ (65008 ≤ c.toInt ∧ c.toInt ≤ 65533) then 1 else 0 := by
  unfold own_f2_at120
  simp only [own_s_own_f2_at129, own_lt32, own_eq32, Int32.reduceToInt]
  repeat' split
  all_goals first | rfl | (exfalso; omega)
theorem own_s_own_f2_at111 (c : Int32) : own_f2_at111 c = if c.toInt ≤ 893 ∨ (895 ≤ c.toInt ∧ c.toInt ≤ 8191) ∨ (8204 ≤ c.toInt ∧ c.toInt ≤ 8205) ∨ (8304 ≤ c.toInt ∧ c.toInt ≤ 8591) ∨ (11264 ≤ c.toInt ∧ c.toInt ≤ 12271) ∨ (12289 ≤ c.toInt ∧ c.toInt ≤ 55295) ∨ (63744 ≤ c.toInt ∧ c.toInt ≤ 64975) ∨ (65008 ≤ c.toInt ∧ c.toInt ≤ 65533) then 1 else 0 := by
  unfold own_f2_at111
  simp only [own_s_own_f2_at120, own_lt32, own_eq32, Int32.reduceToInt]
  repeat' split
  all_goals first | rfl | (exfalso; omega)
theorem own_s_own_f2_at102 (c : Int32) : own_f2_at102 c = if (880 ≤ c.toInt ∧ c.toInt ≤ 893) ∨ (895 ≤ c.toInt ∧ c.toInt ≤ 8191) ∨ (8204 ≤ c.toInt ∧ c.toInt ≤ 8205) ∨ (8304 ≤ c.toInt ∧ c.toInt ≤ 8591) ∨ (11264 ≤ c.toInt ∧ c.toInt ≤ 12271) ∨ (12289 ≤ c.toInt ∧ c.toInt ≤ 55295) ∨ (63744 ≤ c.toInt ∧ c.toInt ≤ 64975) ∨ (65008 ≤ c.toInt ∧ c.toInt ≤ 65533) then 1 else 0 := by
  unfold own_f2_at102
  simp only [own_s_own_f2_at111, own_lt32, own_eq32, Int32.reduceToInt]
  repeat' split
  all_goals first | rfl | (exfalso; omega)
theorem own_s_own_f2_at93 (c : Int32) : own_f2_at93 c = if c.toInt ≤ 767 ∨ (880 ≤ c.toInt ∧ c.toInt ≤ 893) ∨ (895 ≤ c.toInt ∧ c.toInt ≤ 8191) ∨ (8204 ≤ c.toInt ∧ c.toInt ≤ 8205) ∨ (8304 ≤ c.toInt ∧ c.toInt ≤ 8591) ∨ (11264 ≤ c.toInt ∧ c.toInt ≤ 12271) ∨ (12289 ≤ c.toInt ∧ c.toInt ≤ 55295) ∨ (63744 ≤ c.toInt ∧ c.toInt ≤ 64975) ∨ (65008 ≤ c.toInt ∧ c.toInt ≤ 65533) then 1 else 0 := by
  unfold own_f2_at93
  simp only [own_s_own_f2_at102, own_lt32, own_eq32, Int32.reduceToInt]
  repeat' split
  all_goals first | rfl | (exfalso; omega)
theorem own_s_own_f2_at77 (c : Int32) : own_f2_at77 c = if c.toInt ≤ 214 ∨ (216 ≤ c.toInt ∧ c.toInt ≤ 246) ∨ (248 ≤ c.toInt ∧ c.toInt ≤ 767) ∨ (880 ≤ c.toInt ∧ c.toInt ≤ 893) ∨ (895 ≤ c.toInt ∧ c.toInt ≤ 8191) ∨ (8204 ≤ c.toInt ∧ c.toInt ≤ 8205) ∨ (8304 ≤ c.toInt ∧ c.toInt ≤ 8591) ∨ (11264 ≤ c.toInt ∧ c.toInt ≤ 12271) ∨ (12289 ≤ c.toInt ∧ c.toInt ≤ 55295) ∨ (63744 ≤ c.toInt ∧ c.toInt ≤ 64975) ∨ (65008 ≤ c.toInt ∧ c.toInt ≤ 65533) then 1 else 0 := by
  unfold own_f2_at77
  simp only [own_f2_at91, own_s_own_f2_at93, own_lt32, own_eq32, Int32.reduceToInt]
  repeat' split
  all_goals first | rfl | (exfalso; omega)
theorem own_s_own_f2_at68 (c : Int32) : own_f2_at68 c = if (192 ≤ c.toInt ∧ c.toInt ≤ 214) ∨ (216 ≤ c.toInt ∧ c.toInt ≤ 246) ∨ (248 ≤ c.toInt ∧ c.toInt ≤ 767) ∨ (880 ≤ c.toInt ∧ c.toInt ≤ 893) ∨ (895 ≤ c.toInt ∧ c.toInt ≤ 8191) ∨ (8204 ≤ c.toInt ∧ c.toInt ≤ 8205) ∨ (8304 ≤ c.toInt ∧ c.toInt ≤ 8591) ∨ (11264 ≤ c.toInt ∧ c.toInt ≤ 12271) ∨ (12289 ≤ c.toInt ∧ c.toInt ≤ 55295) ∨ (63744 ≤ c.toInt ∧ c.toInt ≤ 64975) ∨ (65008 ≤ c.toInt ∧ c.toInt ≤ 65533) then 1 else 0 := by
  unfold own_f2_at68
  simp only [own_s_own_f2_at77, own_lt32, own_eq32, Int32.reduceToInt]
  repeat' split
  all_goals first | rfl | (exfalso; omega)
theorem own_s_own_f2_at50 (c : Int32) : own_f2_at50 c = if (97 ≤ c.toInt ∧ c.toInt ≤ 122) then 1 else 0 := by
  unfold own_f2_at50
  simp only [own_f2_at62, own_f2_at66, own_lt32, own_eq32, Int32.reduceToInt]
  repeat' split
  all_goals first | rfl | (exfalso; omega)
theorem own_s_own_f2_at20 (c : Int32) : own_f2_at20 c = if (58 ≤ c.toInt ∧ c.toInt ≤ 58) ∨ (65 ≤ c.toInt ∧ c.toInt ≤ 90) ∨ (95 ≤ c.toInt ∧ c.toInt ≤ 95) ∨ (97 ≤ c.toInt ∧ c.toInt ≤ 122) ∨ (192 ≤ c.toInt ∧ c.toInt ≤ 214) ∨ (216 ≤ c.toInt ∧ c.toInt ≤ 246) ∨ (248 ≤ c.toInt ∧ c.toInt ≤ 767) ∨ (880 ≤ c.toInt ∧ c.toInt ≤ 893) ∨ (895 ≤ c.toInt ∧ c.toInt ≤ 8191) ∨ (8204 ≤ c.toInt ∧ c.toInt ≤ 8205) ∨ (8304 ≤ c.toInt ∧ c.toInt ≤ 8591) ∨ (11264 ≤ c.toInt ∧ c.toInt ≤ 12271) ∨ (12289 ≤ c.toInt ∧ c.toInt ≤ 55295) ∨ (63744 ≤ c.toInt ∧ c.toInt ≤ 64975) ∨ (65008 ≤ c.toInt ∧ c.toInt ≤ 65533) then 1 else 0 := by
  unfold own_f2_at20
  simp only [own_s_own_f2_at50, own_f2_at62, own_s_own_f2_at68, own_lt32, own_eq32, Int32.reduceToInt]
  repeat' split
  all_goals first | rfl | (exfalso; omega)
theorem own_s_own_f2_at12 (c : Int32) : own_f2_at12 c = if (58 ≤ c.toInt ∧ c.toInt ≤ 58) ∨ (65 ≤ c.toInt ∧ c.toInt ≤ 90) ∨ (95 ≤ c.toInt ∧ c.toInt ≤ 95) ∨ (97 ≤ c.toInt ∧ c.toInt ≤ 122) ∨ (192 ≤ c.toInt ∧ c.toInt ≤ 214) ∨ (216 ≤ c.toInt ∧ c.toInt ≤ 246) ∨ (248 ≤ c.toInt ∧ c.toInt ≤ 767) ∨ (880 ≤ c.toInt ∧ c.toInt ≤ 893) ∨ (895 ≤ c.toInt ∧ c.toInt ≤ 8191) ∨ (8204 ≤ c.toInt ∧ c.toInt ≤ 8205) ∨ (8304 ≤ c.toInt ∧ c.toInt ≤ 8591) ∨ (11264 ≤ c.toInt ∧ c.toInt ≤ 12271) ∨ (12289 ≤ c.toInt ∧ c.toInt ≤ 55295) ∨ (63744 ≤ c.toInt ∧ c.toInt ≤ 64975) ∨ (65008 ≤ c.toInt ∧ c.toInt ≤ 65533) ∨ 65536 ≤ c.toInt then 1 else 0 := by
  unfold own_f2_at12
  simp only [own_s_own_f2_at20, own_lt32, own_eq32, Int32.reduceToInt]
  repeat' split
  all_goals first | rfl | (exfalso; omega)
theorem own_s_own_f2 (c : Int32) : own_f2 c = if (58 ≤ c.toInt ∧ c.toInt ≤ 58) ∨ (65 ≤ c.toInt ∧ c.toInt ≤ 90) ∨ (95 ≤ c.toInt ∧ c.toInt ≤ 95) ∨ (97 ≤ c.toInt ∧ c.toInt ≤ 122) ∨ (192 ≤ c.toInt ∧ c.toInt ≤ 214) ∨ (216 ≤ c.toInt ∧ c.toInt ≤ 246) ∨ (248 ≤ c.toInt ∧ c.toInt ≤ 767) ∨ (880 ≤ c.toInt ∧ c.toInt ≤ 893) ∨ (895 ≤ c.toInt ∧ c.toInt ≤ 8191) ∨ (8204 ≤ c.toInt ∧ c.toInt ≤ 8205) ∨ (8304 ≤ c.toInt ∧ c.toInt ≤ 8591) ∨ (11264 ≤ c.toInt ∧ c.toInt ≤ 12271) ∨ (12289 ≤ c.toInt ∧ c.toInt ≤ 55295) ∨ (63744 ≤ c.toInt ∧ c.toInt ≤ 64975) ∨ (65008 ≤ c.toInt ∧ c.toInt ≤ 65533) ∨ (65536 ≤ c.toInt ∧ c.toInt ≤ 983039) then 1 else 0 := by
  unfold own_f2
  simp only [own_f2_at10, own_s_own_f2_at12, own_lt32, own_eq32, Int32.reduceToInt]
  repeat' split
  all_goals first | rfl | (exfalso; omega)
theorem own_s_own_f1_at185 (c : Int32) : own_f1_at185 c = if (65536 ≤ c.toInt ∧ c.toInt ≤ 983039) then 1 else 0 := by
  unfold own_f1_at185
  simp only [own_f1_at197, own_f1_at201, own_lt32, own_eq32, Int32.reduceToInt]
  repeat' split
  all_goals first | rfl | (exfalso; omega)
theorem own_s_own_f1_at173 (c : Int32) : own_f1_at173 c = if (65008 ≤ c.toInt ∧ c.toInt ≤ 65533) ∨ (65536 ≤ c.toInt ∧ c.toInt ≤ 983039) then 1 else 0 := by
  unfold own_f1_at173
  simp only [own_s_own_f1_at185, own_f1_at197, own_lt32, own_eq32, Int32.reduceToInt]
  repeat' split
  all_goals first | rfl | (exfalso; omega)
theorem own_s_own_f1_at161 (c : Int32) : own_f1_at161 c = if (63744 ≤ c.toInt ∧ c.toInt ≤ 64975) ∨ (65008 ≤ c.toInt ∧ c.toInt ≤ 65533) ∨ (65536 ≤ c.toInt ∧ c.toInt ≤ 983039) then 1 else 0 := by
  unfold own_f1_at161
  simp only [own_s_own_f1_at173, own_f1_at197, own_lt32, own_eq32, Int32.reduceToInt]
  repeat' split
  all_goals first | rfl | (exfalso; omega)
theorem own_s_own_f1_at148 (c : Int32) : own_f1_at148 c = if (12289 ≤ c.toInt ∧ c.toInt ≤ 55295) ∨ (63744 ≤ c.toInt ∧ c.toInt ≤ 64975) ∨ (65008 ≤ c.toInt ∧ c.toInt ≤ 65533) ∨ (65536 ≤ c.toInt ∧ c.toInt ≤ 983039) then 1 else 0 := by
  unfold own_f1_at148
  simp only [own_s_own_f1_at161, own_f1_at197, own_lt32, own_eq32, Int32.reduceToInt]
  repeat' split
  all_goals first | rfl | (exfalso; omega)
theorem own_s_own_f1_at134 (c : Int32) : own_f1_at134 c = if (11264 ≤ c.toInt ∧ c.toInt ≤ 12271) ∨ (12289 ≤ c.toInt ∧ c.toInt ≤ 55295) ∨ (63744 ≤ c.toInt ∧ c.toInt ≤ 64975) ∨ (65008 ≤ c.toInt ∧ c.toInt ≤ 65533) ∨ (65536 ≤ c.toInt ∧ c.toInt ≤ 983039) then 1 else 0 := by
  unfold own_f1_at134
  simp only [own_s_own_f1_at148, own_f1_at197, own_lt32, own_eq32, Int32.reduceToInt]
  repeat' split
  all_goals first | rfl | (exfalso; omega)
theorem own_s_own_f1_at120 (c : Int32) : own_f1_at120 c = if (8304 ≤ c.toInt ∧ c.toInt ≤ 8591) ∨ (11264 ≤ c.toInt ∧ c.toInt ≤ 12271) ∨ (12289 ≤ c.toInt ∧ c.toInt ≤ 55295) ∨ (63744 ≤ c.toInt ∧ c.toInt ≤ 64975) ∨ (65008 ≤ c.toInt ∧ c.toInt ≤ 65533) ∨ (65536 ≤ c.toInt ∧ c.toInt ≤ 983039) then 1 else 0 := by
  unfold own_f1_at120
  simp only [own_s_own_f1_at134, own_f1_at197, own_lt32, own_eq32, Int32.reduceToInt]
  repeat' split
  all_goals first | rfl | (exfalso; omega)
theorem own_s_own_f1_at106 (c : Int32) : own_f1_at106 c = if (8204 ≤ c.toInt ∧ c.toInt ≤ 8205) ∨ (8304 ≤ c.toInt ∧ c.toInt ≤ 8591) ∨ (11264 ≤ c.toInt ∧ c.toInt ≤ 12271) ∨ (12289 ≤ c.toInt ∧ c.toInt ≤ 55295) ∨ (63744 ≤ c.toInt ∧ c.toInt ≤ 64975) ∨ (65008 ≤ c.toInt ∧ c.toInt ≤ 65533) ∨ (65536 ≤ c.toInt ∧ c.toInt ≤ 983039) then 1 else 0 := by
  unfold own_f1_at106
  simp only [own_s_own_f1_at120, own_f1_at197, own_lt32, own_eq32, Int32.reduceToInt]
  repeat' split
  all_goals first | rfl | (exfalso; omega)
theorem own_s_own_f1_at92 (c : Int32) : own_f1_at92 c = if (895 ≤ c.toInt ∧ c.toInt ≤ 8191) ∨ (8204 ≤ c.toInt ∧ c.toInt ≤ 8205) ∨ (8304 ≤ c.toInt ∧ c.toInt ≤ 8591) ∨ (11264 ≤ c.toInt ∧ c.toInt ≤ 12271) ∨ (12289 ≤ c.toInt ∧ c.toInt ≤ 55295) ∨ (63744 ≤ c.toInt ∧ c.toInt ≤ 64975) ∨ (65008 ≤ c.toInt ∧ c.toInt ≤ 65533) ∨ (65536 ≤ c.toInt ∧ c.toInt ≤ 983039) then 1 else 0 := by
  unfold own_f1_at92
  simp only [own_s_own_f1_at106, own_f1_at197, own_lt32, own_eq32, Int32.reduceToInt]
  repeat' split
  all_goals first | rfl | (exfalso; omega)
theorem own_s_own_f1_at78 (c : Int32) : own_f1_at78 c = if (880 ≤ c.toInt ∧ c.toInt ≤ 893) ∨ (895 ≤ c.toInt ∧ c.toInt ≤ 8191) ∨ (8204 ≤ c.toInt ∧ c.toInt ≤ 8205) ∨ (8304 ≤ c.toInt ∧ c.toInt ≤ 8591) ∨ (11264 ≤ c.toInt ∧ c.toInt ≤ 12271) ∨ (12289 ≤ c.toInt ∧ c.toInt ≤ 55295) ∨ (63744 ≤ c.toInt ∧ c.toInt ≤ 64975) ∨ (65008 ≤ c.toInt ∧ c.toInt ≤ 65533) ∨ (65536 ≤ c.toInt ∧ c.toInt ≤ 983039) then 1 else 0 := by
  unfold own_f1_at78
  simp only [own_f1_at197, own_s_own_f1_at92, own_lt32, own_eq32, Int32.reduceToInt]
  repeat' split
  all_goals first | rfl | (exfalso; omega)
theorem own_s_own_f1_at64 (c : Int32) : own_f1_at64 c = if (248 ≤ c.toInt ∧ c.toInt ≤ 767) ∨ (880 ≤ c.toInt ∧ c.toInt ≤ 893) ∨ (895 ≤ c.toInt ∧ c.toInt ≤ 8191) ∨ (8204 ≤ c.toInt ∧ c.toInt ≤ 8205) ∨ (8304 ≤ c.toInt ∧ c.toInt ≤ 8591) ∨ (11264 ≤ c.toInt ∧ c.toInt ≤ 12271) ∨ (12289 ≤ c.toInt ∧ c.toInt ≤ 55295) ∨ (63744 ≤ c.toInt ∧ c.toInt ≤ 64975) ∨ (65008 ≤ c.toInt ∧ c.toInt ≤ 65533) ∨ (65536 ≤ c.toInt ∧ c.toInt ≤ 983039) then 1 else 0 := by
  unfold own_f1_at64
  simp only [own_f1_at197, own_s_own_f1_at78, own_lt32, own_eq32, Int32.reduceToInt]
  repeat' split
  all_goals first | rfl | (exfalso; omega)
theorem own_s_own_f1_at50 (c : Int32) : own_f1_at50 c = if (216 ≤ c.toInt ∧ c.toInt ≤ 246) ∨ (248 ≤ c.toInt ∧ c.toInt ≤ 767) ∨ (880 ≤ c.toInt ∧ c.toInt ≤ 893) ∨ (895 ≤ c.toInt ∧ c.toInt ≤ 8191) ∨ (8204 ≤ c.toInt ∧ c.toInt ≤ 8205) ∨ (8304 ≤ c.toInt ∧ c.toInt ≤ 8591) ∨ (11264 ≤ c.toInt ∧ c.toInt ≤ 12271) ∨ (12289 ≤ c.toInt ∧ c.toInt ≤ 55295) ∨ (63744 ≤ c.toInt ∧ c.toInt ≤ 64975) ∨ (65008 ≤ c.toInt ∧ c.toInt ≤ 65533) ∨ (65536 ≤ c.toInt ∧ c.toInt ≤ 983039) then 1 else 0 := by
  unfold own_f1_at50
  simp only [own_f1_at197, own_s_own_f1_at64, own_lt32, own_eq32, Int32.reduceToInt]
  repeat' split
  all_goals first | rfl | (exfalso; omega)
theorem own_s_own_f1_at36 (c : Int32) : own_f1_at36 c = if (192 ≤ c.toInt ∧ c.toInt ≤ 214) ∨ (216 ≤ c.toInt ∧ c.toInt ≤ 246) ∨ (248 ≤ c.toInt ∧ c.toInt ≤ 767) ∨ (880 ≤ c.toInt ∧ c.toInt ≤ 893) ∨ (895 ≤ c.toInt ∧ c.toInt ≤ 8191) ∨ (8204 ≤ c.toInt ∧ c.toInt ≤ 8205) ∨ (8304 ≤ c.toInt ∧ c.toInt ≤ 8591) ∨ (11264 ≤ c.toInt ∧ c.toInt ≤ 12271) ∨ (12289 ≤ c.toInt ∧ c.toInt ≤ 55295) ∨ (63744 ≤ c.toInt ∧ c.toInt ≤ 64975) ∨ (65008 ≤ c.toInt ∧ c.toInt ≤ 65533) ∨ (65536 ≤ c.toInt ∧ c.toInt ≤ 983039) then 1 else 0 := by
  unfold own_f1_at36
  simp only [own_f1_at197, own_s_own_f1_at50, own_lt32, own_eq32, Int32.reduceToInt]
  repeat' split
  all_goals first | rfl | (exfalso; omega)
theorem own_s_own_f1_at18 (c : Int32) : own_f1_at18 c = if (95 ≤ c.toInt ∧ c.toInt ≤ 95) ∨ (97 ≤ c.toInt ∧ c.toInt ≤ 122) ∨ (192 ≤ c.toInt ∧ c.toInt ≤ 214) ∨ (216 ≤ c.toInt ∧ c.toInt ≤ 246) ∨ (248 ≤ c.toInt ∧ c.toInt ≤ 767) ∨ (880 ≤ c.toInt ∧ c.toInt ≤ 893) ∨ (895 ≤ c.toInt ∧ c.toInt ≤ 8191) ∨ (8204 ≤ c.toInt ∧ c.toInt ≤ 8205) ∨ (8304 ≤ c.toInt ∧ c.toInt ≤ 8591) ∨ (11264 ≤ c.toInt ∧ c.toInt ≤ 12271) ∨ (12289 ≤ c.toInt ∧ c.toInt ≤ 55295) ∨ (63744 ≤ c.toInt ∧ c.toInt ≤ 64975) ∨ (65008 ≤ c.toInt ∧ c.toInt ≤ 65533) ∨ (65536 ≤ c.toInt ∧ c.toInt ≤ 983039) then 1 else 0 := by
  unfold own_f1_at18
  simp only [own_f1_at197, own_s_own_f1_at36, own_lt32, own_eq32, Int32.reduceToInt]
  repeat' split
  all_goals first | rfl | (exfalso; omega)
theorem own_s_own_f1 (c : Int32) : own_f1 c = if (58 ≤ c.toInt ∧ c.toInt ≤ 58) ∨ (65 ≤ c.toInt ∧ c.toInt ≤ 90) ∨ (95 ≤ c.toInt ∧ c.toInt ≤ 95) ∨ (97 ≤ c.toInt ∧ c.toInt ≤ 122) ∨ (192 ≤ c.toInt ∧ c.toInt ≤ 214) ∨ (216 ≤ c.toInt ∧ c.toInt ≤ 246) ∨ (248 ≤ c.toInt ∧ c.toInt ≤ 767) ∨ (880 ≤ c.toInt ∧ c.toInt ≤ 893) ∨ (895 ≤ c.toInt ∧ c.toInt ≤ 8191) ∨ (8204 ≤ c.toInt ∧ c.toInt ≤ 8205) ∨ (8304 ≤ c.toInt ∧ c.toInt ≤ 8591) ∨ (11264 ≤ c.toInt ∧ c.toInt ≤ 12271) ∨ (12289 ≤ c.toInt ∧ c.toInt ≤ 55295) ∨ (63744 ≤ c.toInt ∧ c.toInt ≤ 64975) ∨ (65008 ≤ c.toInt ∧ c.toInt ≤ 65533) ∨ (65536 ≤ c.toInt ∧ c.toInt ≤ 983039) then 1 else 0 := by
  unfold own_f1
  simp only [own_s_own_f1_at18, own_f1_at197, own_lt32, own_eq32, Int32.reduceToInt]
  repeat' split
  all_goals first | rfl | (exfalso; omega)
theorem own_law (x0 x1 x2 z : Int32) : own_f0 x0 x1 x2 z = 1 := by
  have n1 : ¬ (1 : Int32) = 0 := by decide
  have s (c : Int32) : own_f1 c = own_f2 c := (own_s_own_f1 c).trans (own_s_own_f2 c).symm
  simp only [own_f0, own_f0_1, own_f0_2, own_f0_3, s, if_true, if_neg n1]
def own_F0 (Z : State) (x0 : Int32) (x1 : Int32) (x2 : Int32)  (n0 : Nat) (h0 : Heap) (v : Option Value) (h : Heap) (L : List Loc) : Prop := v = some (.int 1) ∧ Fr n0 L
set_option maxRecDepth 65536 in
set_option maxHeartbeats 40000000 in
theorem own_m0 (l : Launch) (Z : State) (a0 : Array Value) (hw : ∀ d ∈ tables_1, d.before a0 Z = true) (ws : List Jvm.Cond) (x0 : Int32) (x1 : Int32) (x2 : Int32)  (n0 : Nat) (h0 : Heap) (Z0 : n0 ≤ h0.size)   :
    MetFree l x (head1 (Jvm.Cond.code x code maxLocals ret :: ws) room_1) (fun a U => a = #[(.int x0), (.int x1), (.int x2)] ∧ Z.Warmed39 U.vm ∧ U.heap = h0) (fun _ _ _ _ _ => True) (fun _ U o U' => ∃ v L, o = .returned v ∧ own_F0 Z x0 x1 x2 n0 h0 v U'.heap L ∧ FrameEnd U o U' L room_1.cells room_1.slots) := by
  refine MetFree.of_bodySF (plainFor_of_name pn_0) hisR ?_
  intro p e s m args below meth c s₁ Bd hml0 hP hK
  obtain ⟨rfl, hZ, hh⟩ := hP
  have hx := Bd.exec
  have hby := Bd.bytes
  have hml : c.maxLocals = 9 := hml0
  have hown : s.vm.findClass "com/example/arbora/arbora/XmlSyntaxIsNameStartCharPinLaw" = some m.cls := findClass_of_methodNamed Bd.named
  have hnm := (name_of_methodNamed Bd.named Bd.method).1
  have X0 : Stand p l e room_1 s m #[(.int x0), (.int x1), (.int x2)] below meth c s₁ [] 0 0 := Stand.of_body Bd
  have e0 : s₁.heap = h0 := by rw [← hh, Bd.state]; rfl
  have N0 := Fr.nil n0
  have K0 : Keep h0 h0 [] := Keep.refl h0 []
  have hgo : own_Goes p e below s (own_F0 Z x0 x1 x2 n0 h0) room_1.cells room_1.slots (s₁.setTop (mkF m 0 #[.val (.int x0), .val (.int x1), .val (.int x2), .unset, .unset, .unset, .unset, .unset, .unset] [])) := by
    refine own_Goes.step (fun t k => XT.bipushV X0.here hx rfl (34 : Int32) (hb hby at_0) (by decide) k) ?_
    show own_Goes p e below s (own_F0 Z x0 x1 x2 n0 h0) room_1.cells room_1.slots (s₁.setTop (mkF m 2 #[.val (.int x0), .val (.int x1), .val (.int x2), .unset, .unset, .unset, .unset, .unset, .unset] [(.int (34 : Int32))]))
    obtain ⟨T1, h1, k1, X1, e1, E1, A1, st1⟩ := newP X0 hx hZ (hw _ (List.mem_of_getElem? (i := 0) rfl)) e0 (g := (mkF m 2 #[.val (.int x0), .val (.int x1), .val (.int x2), .unset, .unset, .unset, .unset, .unset, .unset] [(.int (34 : Int32))])) rfl (hb hby at_2) rfl (by decide) (cap := 34) (by decide) (by decide) (by decide) (by decide)
    obtain ⟨a1, g1⟩ : ∃ z, z = h0.size := ⟨_, rfl⟩
    rw [← g1] at A1 st1
    have r1 : own_AI Z h1 a1 34 := own_AI.new A1
    have ga1 : n0 ≤ a1 := Nat.le_trans Z0 (Nat.le_of_eq g1.symm)
    have Z1 : n0 ≤ h1.size := Nat.le_trans Z0 E1.1
    have K1 := K0.ext E1
    have Kh1 : h0.size ≤ a1 := Nat.le_trans K0.1 (Nat.le_of_eq g1.symm)
    refine own_Goes.step st1 ?_
    show own_Goes p e below s (own_F0 Z x0 x1 x2 n0 h0) room_1.cells room_1.slots (T1.setTop (mkF m 4 #[.val (.int x0), .val (.int x1), .val (.int x2), .unset, .unset, .unset, .unset, .unset, .unset] [(.ref a1)]))
    refine own_Goes.step (fun t k => XS.dup X1.here hx rfl (hb hby at_4) rfl rfl k) ?_
    show own_Goes p e below s (own_F0 Z x0 x1 x2 n0 h0) room_1.cells room_1.slots (T1.setTop (mkF m 5 #[.val (.int x0), .val (.int x1), .val (.int x2), .unset, .unset, .unset, .unset, .unset, .unset] [(.ref a1), (.ref a1)]))
    refine own_Goes.step (fun t k => XT.iconstV X1.here hx rfl (0 : Int32) (hb hby at_5) (by decide) k) ?_
    show own_Goes p e below s (own_F0 Z x0 x1 x2 n0 h0) room_1.cells room_1.slots (T1.setTop (mkF m 6 #[.val (.int x0), .val (.int x1), .val (.int x2), .unset, .unset, .unset, .unset, .unset, .unset] [(.int (0 : Int32)), (.ref a1), (.ref a1)]))
    refine own_Goes.step (fun t k => XT.iconstV X1.here hx rfl (0 : Int32) (hb hby at_6) (by decide) k) ?_
    show own_Goes p e below s (own_F0 Z x0 x1 x2 n0 h0) room_1.cells room_1.slots (T1.setTop (mkF m 7 #[.val (.int x0), .val (.int x1), .val (.int x2), .unset, .unset, .unset, .unset, .unset, .unset] [(.int (0 : Int32)), (.int (0 : Int32)), (.ref a1), (.ref a1)]))
    obtain ⟨u2, v2⟩ := id r1
    obtain ⟨T2, h2, X2, e2, W2, st2⟩ := own_iast X1 hx hZ e1 v2 (i := 0) rfl (by decide) (g := (mkF m 7 #[.val (.int x0), .val (.int x1), .val (.int x2), .unset, .unset, .unset, .unset, .unset, .unset] [(.int (0 : Int32)), (.int (0 : Int32)), (.ref a1), (.ref a1)])) rfl rfl (hb hby at_7)
    refine own_Goes.step st2 ?_
    have f3 := r1.set W2
    have K4 := K1.wr W2 (Or.inr Kh1)
    have N5 := Fr.snoc X2 N0 ga1
    have Z6 : n0 ≤ h2.size := Nat.le_trans Z1 (Keep.of_wr W2).1
    show own_Goes p e below s (own_F0 Z x0 x1 x2 n0 h0) room_1.cells room_1.slots (T2.setTop (mkF m 8 #[.val (.int x0), .val (.int x1), .val (.int x2), .unset, .unset, .unset, .unset, .unset, .unset] [(.ref a1)]))
    refine own_Goes.step (fun t k => XS.dup X2.here hx rfl (hb hby at_8) rfl rfl k) ?_
    show own_Goes p e below s (own_F0 Z x0 x1 x2 n0 h0) room_1.cells room_1.slots (T2.setTop (mkF m 9 #[.val (.int x0), .val (.int x1), .val (.int x2), .unset, .unset, .unset, .unset, .unset, .unset] [(.ref a1), (.ref a1)]))
    refine own_Goes.step (fun t k => XT.iconstV X2.here hx rfl (1 : Int32) (hb hby at_9) (by decide) k) ?_
    show own_Goes p e below s (own_F0 Z x0 x1 x2 n0 h0) room_1.cells room_1.slots (T2.setTop (mkF m 10 #[.val (.int x0), .val (.int x1), .val (.int x2), .unset, .unset, .unset, .unset, .unset, .unset] [(.int (1 : Int32)), (.ref a1), (.ref a1)]))
    refine own_Goes.step (fun t k => XT.bipushV X2.here hx rfl (58 : Int32) (hb hby at_10) (by decide) k) ?_
    show own_Goes p e below s (own_F0 Z x0 x1 x2 n0 h0) room_1.cells room_1.slots (T2.setTop (mkF m 12 #[.val (.int x0), .val (.int x1), .val (.int x2), .unset, .unset, .unset, .unset, .unset, .unset] [(.int (58 : Int32)), (.int (1 : Int32)), (.ref a1), (.ref a1)]))
    obtain ⟨u7, v7⟩ := id f3
    obtain ⟨T7, h7, X7, e7, W7, st7⟩ := own_iast X2 hx hZ e2 v7 (i := 1) rfl (by decide) (g := (mkF m 12 #[.val (.int x0), .val (.int x1), .val (.int x2), .unset, .unset, .unset, .unset, .unset, .unset] [(.int (58 : Int32)), (.int (1 : Int32)), (.ref a1), (.ref a1)])) rfl rfl (hb hby at_12)
    refine own_Goes.step st7 ?_
    have f8 := f3.set W7
    have K9 := K4.wr W7 (Or.inr Kh1)
    have N10 := Fr.snoc X7 N5 ga1
    have Z11 : n0 ≤ h7.size := Nat.le_trans Z6 (Keep.of_wr W7).1
    show own_Goes p e below s (own_F0 Z x0 x1 x2 n0 h0) room_1.cells room_1.slots (T7.setTop (mkF m 13 #[.val (.int x0), .val (.int x1), .val (.int x2), .unset, .unset, .unset, .unset, .unset, .unset] [(.ref a1)]))
    refine own_Goes.step (fun t k => XS.dup X7.here hx rfl (hb hby at_13) rfl rfl k) ?_
    show own_Goes p e below s (own_F0 Z x0 x1 x2 n0 h0) room_1.cells room_1.slots (T7.setTop (mkF m 14 #[.val (.int x0), .val (.int x1), .val (.int x2), .unset, .unset, .unset, .unset, .unset, .unset] [(.ref a1), (.ref a1)]))
    refine own_Goes.step (fun t k => XT.iconstV X7.here hx rfl (2 : Int32) (hb hby at_14) (by decide) k) ?_
    show own_Goes p e below s (own_F0 Z x0 x1 x2 n0 h0) room_1.cells room_1.slots (T7.setTop (mkF m 15 #[.val (.int x0), .val (.int x1), .val (.int x2), .unset, .unset, .unset, .unset, .unset, .unset] [(.int (2 : Int32)), (.ref a1), (.ref a1)]))
    refine own_Goes.step (fun t k => XT.bipushV X7.here hx rfl (65 : Int32) (hb hby at_15) (by decide) k) ?_
    show own_Goes p e below s (own_F0 Z x0 x1 x2 n0 h0) room_1.cells room_1.slots (T7.setTop (mkF m 17 #[.val (.int x0), .val (.int x1), .val (.int x2), .unset, .unset, .unset, .unset, .unset, .unset] [(.int (65 : Int32)), (.int (2 : Int32)), (.ref a1), (.ref a1)]))
    obtain ⟨u12, v12⟩ := id f8
    obtain ⟨T12, h12, X12, e12, W12, st12⟩ := own_iast X7 hx hZ e7 v12 (i := 2) rfl (by decide) (g := (mkF m 17 #[.val (.int x0), .val (.int x1), .val (.int x2), .unset, .unset, .unset, .unset, .unset, .unset] [(.int (65 : Int32)), (.int (2 : Int32)), (.ref a1), (.ref a1)])) rfl rfl (hb hby at_17)
    refine own_Goes.step st12 ?_
    have f13 := f8.set W12
    have K14 := K9.wr W12 (Or.inr Kh1)
    have N15 := Fr.snoc X12 N10 ga1
    have Z16 : n0 ≤ h12.size := Nat.le_trans Z11 (Keep.of_wr W12).1
    show own_Goes p e below s (own_F0 Z x0 x1 x2 n0 h0) room_1.cells room_1.slots (T12.setTop (mkF m 18 #[.val (.int x0), .val (.int x1), .val (.int x2), .unset, .unset, .unset, .unset, .unset, .unset] [(.ref a1)]))
    refine own_Goes.step (fun t k => XS.dup X12.here hx rfl (hb hby at_18) rfl rfl k) ?_
    show own_Goes p e below s (own_F0 Z x0 x1 x2 n0 h0) room_1.cells room_1.slots (T12.setTop (mkF m 19 #[.val (.int x0), .val (.int x1), .val (.int x2), .unset, .unset, .unset, .unset, .unset, .unset] [(.ref a1), (.ref a1)]))
    refine own_Goes.step (fun t k => XT.iconstV X12.here hx rfl (3 : Int32) (hb hby at_19) (by decide) k) ?_
    show own_Goes p e below s (own_F0 Z x0 x1 x2 n0 h0) room_1.cells room_1.slots (T12.setTop (mkF m 20 #[.val (.int x0), .val (.int x1), .val (.int x2), .unset, .unset, .unset, .unset, .unset, .unset] [(.int (3 : Int32)), (.ref a1), (.ref a1)]))
    refine own_Goes.step (fun t k => XT.bipushV X12.here hx rfl (90 : Int32) (hb hby at_20) (by decide) k) ?_
    show own_Goes p e below s (own_F0 Z x0 x1 x2 n0 h0) room_1.cells room_1.slots (T12.setTop (mkF m 22 #[.val (.int x0), .val (.int x1), .val (.int x2), .unset, .unset, .unset, .unset, .unset, .unset] [(.int (90 : Int32)), (.int (3 : Int32)), (.ref a1), (.ref a1)]))
    obtain ⟨u17, v17⟩ := id f13
    obtain ⟨T17, h17, X17, e17, W17, st17⟩ := own_iast X12 hx hZ e12 v17 (i := 3) rfl (by decide) (g := (mkF m 22 #[.val (.int x0), .val (.int x1), .val (.int x2), .unset, .unset, .unset, .unset, .unset, .unset] [(.int (90 : Int32)), (.int (3 : Int32)), (.ref a1), (.ref a1)])) rfl rfl (hb hby at_22)
    refine own_Goes.step st17 ?_
    have f18 := f13.set W17
    have K19 := K14.wr W17 (Or.inr Kh1)
    have N20 := Fr.snoc X17 N15 ga1
    have Z21 : n0 ≤ h17.size := Nat.le_trans Z16 (Keep.of_wr W17).1
    show own_Goes p e below s (own_F0 Z x0 x1 x2 n0 h0) room_1.cells room_1.slots (T17.setTop (mkF m 23 #[.val (.int x0), .val (.int x1), .val (.int x2), .unset, .unset, .unset, .unset, .unset, .unset] [(.ref a1)]))
    refine own_Goes.step (fun t k => XS.dup X17.here hx rfl (hb hby at_23) rfl rfl k) ?_
    show own_Goes p e below s (own_F0 Z x0 x1 x2 n0 h0) room_1.cells room_1.slots (T17.setTop (mkF m 24 #[.val (.int x0), .val (.int x1), .val (.int x2), .unset, .unset, .unset, .unset, .unset, .unset] [(.ref a1), (.ref a1)]))
    refine own_Goes.step (fun t k => XT.iconstV X17.here hx rfl (4 : Int32) (hb hby at_24) (by decide) k) ?_
    show own_Goes p e below s (own_F0 Z x0 x1 x2 n0 h0) room_1.cells room_1.slots (T17.setTop (mkF m 25 #[.val (.int x0), .val (.int x1), .val (.int x2), .unset, .unset, .unset, .unset, .unset, .unset] [(.int (4 : Int32)), (.ref a1), (.ref a1)]))
    refine own_Goes.step (fun t k => XT.bipushV X17.here hx rfl (95 : Int32) (hb hby at_25) (by decide) k) ?_
    show own_Goes p e below s (own_F0 Z x0 x1 x2 n0 h0) room_1.cells room_1.slots (T17.setTop (mkF m 27 #[.val (.int x0), .val (.int x1), .val (.int x2), .unset, .unset, .unset, .unset, .unset, .unset] [(.int (95 : Int32)), (.int (4 : Int32)), (.ref a1), (.ref a1)]))
    obtain ⟨u22, v22⟩ := id f18
    obtain ⟨T22, h22, X22, e22, W22, st22⟩ := own_iast X17 hx hZ e17 v22 (i := 4) rfl (by decide) (g := (mkF m 27 #[.val (.int x0), .val (.int x1), .val (.int x2), .unset, .unset, .unset, .unset, .unset, .unset] [(.int (95 : Int32)), (.int (4 : Int32)), (.ref a1), (.ref a1)])) rfl rfl (hb hby at_27)
    refine own_Goes.step st22 ?_
    have f23 := f18.set W22
    have K24 := K19.wr W22 (Or.inr Kh1)
    have N25 := Fr.snoc X22 N20 ga1
    have Z26 : n0 ≤ h22.size := Nat.le_trans Z21 (Keep.of_wr W22).1
    show own_Goes p e below s (own_F0 Z x0 x1 x2 n0 h0) room_1.cells room_1.slots (T22.setTop (mkF m 28 #[.val (.int x0), .val (.int x1), .val (.int x2), .unset, .unset, .unset, .unset, .unset, .unset] [(.ref a1)]))
    refine own_Goes.step (fun t k => XS.dup X22.here hx rfl (hb hby at_28) rfl rfl k) ?_
    show own_Goes p e below s (own_F0 Z x0 x1 x2 n0 h0) room_1.cells room_1.slots (T22.setTop (mkF m 29 #[.val (.int x0), .val (.int x1), .val (.int x2), .unset, .unset, .unset, .unset, .unset, .unset] [(.ref a1), (.ref a1)]))
    refine own_Goes.step (fun t k => XT.iconstV X22.here hx rfl (5 : Int32) (hb hby at_29) (by decide) k) ?_
    show own_Goes p e below s (own_F0 Z x0 x1 x2 n0 h0) room_1.cells room_1.slots (T22.setTop (mkF m 30 #[.val (.int x0), .val (.int x1), .val (.int x2), .unset, .unset, .unset, .unset, .unset, .unset] [(.int (5 : Int32)), (.ref a1), (.ref a1)]))
    refine own_Goes.step (fun t k => XT.bipushV X22.here hx rfl (97 : Int32) (hb hby at_30) (by decide) k) ?_
    show own_Goes p e below s (own_F0 Z x0 x1 x2 n0 h0) room_1.cells room_1.slots (T22.setTop (mkF m 32 #[.val (.int x0), .val (.int x1), .val (.int x2), .unset, .unset, .unset, .unset, .unset, .unset] [(.int (97 : Int32)), (.int (5 : Int32)), (.ref a1), (.ref a1)]))
    obtain ⟨u27, v27⟩ := id f23
    obtain ⟨T27, h27, X27, e27, W27, st27⟩ := own_iast X22 hx hZ e22 v27 (i := 5) rfl (by decide) (g := (mkF m 32 #[.val (.int x0), .val (.int x1), .val (.int x2), .unset, .unset, .unset, .unset, .unset, .unset] [(.int (97 : Int32)), (.int (5 : Int32)), (.ref a1), (.ref a1)])) rfl rfl (hb hby at_32)
    refine own_Goes.step st27 ?_
    have f28 := f23.set W27
    have K29 := K24.wr W27 (Or.inr Kh1)
    have N30 := Fr.snoc X27 N25 ga1
    have Z31 : n0 ≤ h27.size := Nat.le_trans Z26 (Keep.of_wr W27).1
    show own_Goes p e below s (own_F0 Z x0 x1 x2 n0 h0) room_1.cells room_1.slots (T27.setTop (mkF m 33 #[.val (.int x0), .val (.int x1), .val (.int x2), .unset, .unset, .unset, .unset, .unset, .unset] [(.ref a1)]))
    refine own_Goes.step (fun t k => XS.dup X27.here hx rfl (hb hby at_33) rfl rfl k) ?_
    show own_Goes p e below s (own_F0 Z x0 x1 x2 n0 h0) room_1.cells room_1.slots (T27.setTop (mkF m 34 #[.val (.int x0), .val (.int x1), .val (.int x2), .unset, .unset, .unset, .unset, .unset, .unset] [(.ref a1), (.ref a1)]))
    refine own_Goes.step (fun t k => XT.bipushV X27.here hx rfl (6 : Int32) (hb hby at_34) (by decide) k) ?_
    show own_Goes p e below s (own_F0 Z x0 x1 x2 n0 h0) room_1.cells room_1.slots (T27.setTop (mkF m 36 #[.val (.int x0), .val (.int x1), .val (.int x2), .unset, .unset, .unset, .unset, .unset, .unset] [(.int (6 : Int32)), (.ref a1), (.ref a1)]))
    refine own_Goes.step (fun t k => XT.bipushV X27.here hx rfl (122 : Int32) (hb hby at_36) (by decide) k) ?_
    show own_Goes p e below s (own_F0 Z x0 x1 x2 n0 h0) room_1.cells room_1.slots (T27.setTop (mkF m 38 #[.val (.int x0), .val (.int x1), .val (.int x2), .unset, .unset, .unset, .unset, .unset, .unset] [(.int (122 : Int32)), (.int (6 : Int32)), (.ref a1), (.ref a1)]))
    obtain ⟨u32, v32⟩ := id f28
    obtain ⟨T32, h32, X32, e32, W32, st32⟩ := own_iast X27 hx hZ e27 v32 (i := 6) rfl (by decide) (g := (mkF m 38 #[.val (.int x0), .val (.int x1), .val (.int x2), .unset, .unset, .unset, .unset, .unset, .unset] [(.int (122 : Int32)), (.int (6 : Int32)), (.ref a1), (.ref a1)])) rfl rfl (hb hby at_38)
    refine own_Goes.step st32 ?_
    have f33 := f28.set W32
    have K34 := K29.wr W32 (Or.inr Kh1)
    have N35 := Fr.snoc X32 N30 ga1
    have Z36 : n0 ≤ h32.size := Nat.le_trans Z31 (Keep.of_wr W32).1
    show own_Goes p e below s (own_F0 Z x0 x1 x2 n0 h0) room_1.cells room_1.slots (T32.setTop (mkF m 39 #[.val (.int x0), .val (.int x1), .val (.int x2), .unset, .unset, .unset, .unset, .unset, .unset] [(.ref a1)]))
    refine own_Goes.step (fun t k => XS.dup X32.here hx rfl (hb hby at_39) rfl rfl k) ?_
    show own_Goes p e below s (own_F0 Z x0 x1 x2 n0 h0) room_1.cells room_1.slots (T32.setTop (mkF m 40 #[.val (.int x0), .val (.int x1), .val (.int x2), .unset, .unset, .unset, .unset, .unset, .unset] [(.ref a1), (.ref a1)]))
    refine own_Goes.step (fun t k => XT.bipushV X32.here hx rfl (7 : Int32) (hb hby at_40) (by decide) k) ?_
    show own_Goes p e below s (own_F0 Z x0 x1 x2 n0 h0) room_1.cells room_1.slots (T32.setTop (mkF m 42 #[.val (.int x0), .val (.int x1), .val (.int x2), .unset, .unset, .unset, .unset, .unset, .unset] [(.int (7 : Int32)), (.ref a1), (.ref a1)]))
    refine own_Goes.step (fun t k => XT.bipushV X32.here hx rfl (127 : Int32) (hb hby at_42) (by decide) k) ?_
    show own_Goes p e below s (own_F0 Z x0 x1 x2 n0 h0) room_1.cells room_1.slots (T32.setTop (mkF m 44 #[.val (.int x0), .val (.int x1), .val (.int x2), .unset, .unset, .unset, .unset, .unset, .unset] [(.int (127 : Int32)), (.int (7 : Int32)), (.ref a1), (.ref a1)]))
    obtain ⟨u37, v37⟩ := id f33
    obtain ⟨T37, h37, X37, e37, W37, st37⟩ := own_iast X32 hx hZ e32 v37 (i := 7) rfl (by decide) (g := (mkF m 44 #[.val (.int x0), .val (.int x1), .val (.int x2), .unset, .unset, .unset, .unset, .unset, .unset] [(.int (127 : Int32)), (.int (7 : Int32)), (.ref a1), (.ref a1)])) rfl rfl (hb hby at_44)
    refine own_Goes.step st37 ?_
    have f38 := f33.set W37
    have K39 := K34.wr W37 (Or.inr Kh1)
    have N40 := Fr.snoc X37 N35 ga1
    have Z41 : n0 ≤ h37.size := Nat.le_trans Z36 (Keep.of_wr W37).1
    show own_Goes p e below s (own_F0 Z x0 x1 x2 n0 h0) room_1.cells room_1.slots (T37.setTop (mkF m 45 #[.val (.int x0), .val (.int x1), .val (.int x2), .unset, .unset, .unset, .unset, .unset, .unset] [(.ref a1)]))
    refine own_Goes.step (fun t k => XS.dup X37.here hx rfl (hb hby at_45) rfl rfl k) ?_
    show own_Goes p e below s (own_F0 Z x0 x1 x2 n0 h0) room_1.cells room_1.slots (T37.setTop (mkF m 46 #[.val (.int x0), .val (.int x1), .val (.int x2), .unset, .unset, .unset, .unset, .unset, .unset] [(.ref a1), (.ref a1)]))
    refine own_Goes.step (fun t k => XT.bipushV X37.here hx rfl (8 : Int32) (hb hby at_46) (by decide) k) ?_
    show own_Goes p e below s (own_F0 Z x0 x1 x2 n0 h0) room_1.cells room_1.slots (T37.setTop (mkF m 48 #[.val (.int x0), .val (.int x1), .val (.int x2), .unset, .unset, .unset, .unset, .unset, .unset] [(.int (8 : Int32)), (.ref a1), (.ref a1)]))
    refine own_Goes.step (fun t k => XT.sipushV X37.here hx rfl (192 : Int32) (hb hby at_48) (by decide) k) ?_
    show own_Goes p e below s (own_F0 Z x0 x1 x2 n0 h0) room_1.cells room_1.slots (T37.setTop (mkF m 51 #[.val (.int x0), .val (.int x1), .val (.int x2), .unset, .unset, .unset, .unset, .unset, .unset] [(.int (192 : Int32)), (.int (8 : Int32)), (.ref a1), (.ref a1)]))
    obtain ⟨u42, v42⟩ := id f38
    obtain ⟨T42, h42, X42, e42, W42, st42⟩ := own_iast X37 hx hZ e37 v42 (i := 8) rfl (by decide) (g := (mkF m 51 #[.val (.int x0), .val (.int x1), .val (.int x2), .unset, .unset, .unset, .unset, .unset, .unset] [(.int (192 : Int32)), (.int (8 : Int32)), (.ref a1), (.ref a1)])) rfl rfl (hb hby at_51)
    refine own_Goes.step st42 ?_
    have f43 := f38.set W42
    have K44 := K39.wr W42 (Or.inr Kh1)
    have N45 := Fr.snoc X42 N40 ga1
    have Z46 : n0 ≤ h42.size := Nat.le_trans Z41 (Keep.of_wr W42).1
    show own_Goes p e below s (own_F0 Z x0 x1 x2 n0 h0) room_1.cells room_1.slots (T42.setTop (mkF m 52 #[.val (.int x0), .val (.int x1), .val (.int x2), .unset, .unset, .unset, .unset, .unset, .unset] [(.ref a1)]))
    refine own_Goes.step (fun t k => XS.dup X42.here hx rfl (hb hby at_52) rfl rfl k) ?_
    show own_Goes p e below s (own_F0 Z x0 x1 x2 n0 h0) room_1.cells room_1.slots (T42.setTop (mkF m 53 #[.val (.int x0), .val (.int x1), .val (.int x2), .unset, .unset, .unset, .unset, .unset, .unset] [(.ref a1), (.ref a1)]))
    refine own_Goes.step (fun t k => XT.bipushV X42.here hx rfl (9 : Int32) (hb hby at_53) (by decide) k) ?_
    show own_Goes p e below s (own_F0 Z x0 x1 x2 n0 h0) room_1.cells room_1.slots (T42.setTop (mkF m 55 #[.val (.int x0), .val (.int x1), .val (.int x2), .unset, .unset, .unset, .unset, .unset, .unset] [(.int (9 : Int32)), (.ref a1), (.ref a1)]))
    refine own_Goes.step (fun t k => XT.sipushV X42.here hx rfl (214 : Int32) (hb hby at_55) (by decide) k) ?_
    show own_Goes p e below s (own_F0 Z x0 x1 x2 n0 h0) room_1.cells room_1.slots (T42.setTop (mkF m 58 #[.val (.int x0), .val (.int x1), .val (.int x2), .unset, .unset, .unset, .unset, .unset, .unset] [(.int (214 : Int32)), (.int (9 : Int32)), (.ref a1), (.ref a1)]))
    obtain ⟨u47, v47⟩ := id f43
    obtain ⟨T47, h47, X47, e47, W47, st47⟩ := own_iast X42 hx hZ e42 v47 (i := 9) rfl (by decide) (g := (mkF m 58 #[.val (.int x0), .val (.int x1), .val (.int x2), .unset, .unset, .unset, .unset, .unset, .unset] [(.int (214 : Int32)), (.int (9 : Int32)), (.ref a1), (.ref a1)])) rfl rfl (hb hby at_58)
    refine own_Goes.step st47 ?_
    have f48 := f43.set W47
    have K49 := K44.wr W47 (Or.inr Kh1)
    have N50 := Fr.snoc X47 N45 ga1
    have Z51 : n0 ≤ h47.size := Nat.le_trans Z46 (Keep.of_wr W47).1
    show own_Goes p e below s (own_F0 Z x0 x1 x2 n0 h0) room_1.cells room_1.slots (T47.setTop (mkF m 59 #[.val (.int x0), .val (.int x1), .val (.int x2), .unset, .unset, .unset, .unset, .unset, .unset] [(.ref a1)]))
    refine own_Goes.step (fun t k => XS.dup X47.here hx rfl (hb hby at_59) rfl rfl k) ?_
    show own_Goes p e below s (own_F0 Z x0 x1 x2 n0 h0) room_1.cells room_1.slots (T47.setTop (mkF m 60 #[.val (.int x0), .val (.int x1), .val (.int x2), .unset, .unset, .unset, .unset, .unset, .unset] [(.ref a1), (.ref a1)]))
    refine own_Goes.step (fun t k => XT.bipushV X47.here hx rfl (10 : Int32) (hb hby at_60) (by decide) k) ?_
    show own_Goes p e below s (own_F0 Z x0 x1 x2 n0 h0) room_1.cells room_1.slots (T47.setTop (mkF m 62 #[.val (.int x0), .val (.int x1), .val (.int x2), .unset, .unset, .unset, .unset, .unset, .unset] [(.int (10 : Int32)), (.ref a1), (.ref a1)]))
    refine own_Goes.step (fun t k => XT.sipushV X47.here hx rfl (216 : Int32) (hb hby at_62) (by decide) k) ?_
    show own_Goes p e below s (own_F0 Z x0 x1 x2 n0 h0) room_1.cells room_1.slots (T47.setTop (mkF m 65 #[.val (.int x0), .val (.int x1), .val (.int x2), .unset, .unset, .unset, .unset, .unset, .unset] [(.int (216 : Int32)), (.int (10 : Int32)), (.ref a1), (.ref a1)]))
    obtain ⟨u52, v52⟩ := id f48
    obtain ⟨T52, h52, X52, e52, W52, st52⟩ := own_iast X47 hx hZ e47 v52 (i := 10) rfl (by decide) (g := (mkF m 65 #[.val (.int x0), .val (.int x1), .val (.int x2), .unset, .unset, .unset, .unset, .unset, .unset] [(.int (216 : Int32)), (.int (10 : Int32)), (.ref a1), (.ref a1)])) rfl rfl (hb hby at_65)
    refine own_Goes.step st52 ?_
    have f53 := f48.set W52
    have K54 := K49.wr W52 (Or.inr Kh1)
    have N55 := Fr.snoc X52 N50 ga1
    have Z56 : n0 ≤ h52.size := Nat.le_trans Z51 (Keep.of_wr W52).1
    show own_Goes p e below s (own_F0 Z x0 x1 x2 n0 h0) room_1.cells room_1.slots (T52.setTop (mkF m 66 #[.val (.int x0), .val (.int x1), .val (.int x2), .unset, .unset, .unset, .unset, .unset, .unset] [(.ref a1)]))
    refine own_Goes.step (fun t k => XS.dup X52.here hx rfl (hb hby at_66) rfl rfl k) ?_
    show own_Goes p e below s (own_F0 Z x0 x1 x2 n0 h0) room_1.cells room_1.slots (T52.setTop (mkF m 67 #[.val (.int x0), .val (.int x1), .val (.int x2), .unset, .unset, .unset, .unset, .unset, .unset] [(.ref a1), (.ref a1)]))
    refine own_Goes.step (fun t k => XT.bipushV X52.here hx rfl (11 : Int32) (hb hby at_67) (by decide) k) ?_
    show own_Goes p e below s (own_F0 Z x0 x1 x2 n0 h0) room_1.cells room_1.slots (T52.setTop (mkF m 69 #[.val (.int x0), .val (.int x1), .val (.int x2), .unset, .unset, .unset, .unset, .unset, .unset] [(.int (11 : Int32)), (.ref a1), (.ref a1)]))
    refine own_Goes.step (fun t k => XT.sipushV X52.here hx rfl (246 : Int32) (hb hby at_69) (by decide) k) ?_
    show own_Goes p e below s (own_F0 Z x0 x1 x2 n0 h0) room_1.cells room_1.slots (T52.setTop (mkF m 72 #[.val (.int x0), .val (.int x1), .val (.int x2), .unset, .unset, .unset, .unset, .unset, .unset] [(.int (246 : Int32)), (.int (11 : Int32)), (.ref a1), (.ref a1)]))
    obtain ⟨u57, v57⟩ := id f53
    obtain ⟨T57, h57, X57, e57, W57, st57⟩ := own_iast X52 hx hZ e52 v57 (i := 11) rfl (by decide) (g := (mkF m 72 #[.val (.int x0), .val (.int x1), .val (.int x2), .unset, .unset, .unset, .unset, .unset, .unset] [(.int (246 : Int32)), (.int (11 : Int32)), (.ref a1), (.ref a1)])) rfl rfl (hb hby at_72)
    refine own_Goes.step st57 ?_
    have f58 := f53.set W57
    have K59 := K54.wr W57 (Or.inr Kh1)
    have N60 := Fr.snoc X57 N55 ga1
    have Z61 : n0 ≤ h57.size := Nat.le_trans Z56 (Keep.of_wr W57).1
    show own_Goes p e below s (own_F0 Z x0 x1 x2 n0 h0) room_1.cells room_1.slots (T57.setTop (mkF m 73 #[.val (.int x0), .val (.int x1), .val (.int x2), .unset, .unset, .unset, .unset, .unset, .unset] [(.ref a1)]))
    refine own_Goes.step (fun t k => XS.dup X57.here hx rfl (hb hby at_73) rfl rfl k) ?_
    show own_Goes p e below s (own_F0 Z x0 x1 x2 n0 h0) room_1.cells room_1.slots (T57.setTop (mkF m 74 #[.val (.int x0), .val (.int x1), .val (.int x2), .unset, .unset, .unset, .unset, .unset, .unset] [(.ref a1), (.ref a1)]))
    refine own_Goes.step (fun t k => XT.bipushV X57.here hx rfl (12 : Int32) (hb hby at_74) (by decide) k) ?_
    show own_Goes p e below s (own_F0 Z x0 x1 x2 n0 h0) room_1.cells room_1.slots (T57.setTop (mkF m 76 #[.val (.int x0), .val (.int x1), .val (.int x2), .unset, .unset, .unset, .unset, .unset, .unset] [(.int (12 : Int32)), (.ref a1), (.ref a1)]))
    refine own_Goes.step (fun t k => XT.sipushV X57.here hx rfl (248 : Int32) (hb hby at_76) (by decide) k) ?_
    show own_Goes p e below s (own_F0 Z x0 x1 x2 n0 h0) room_1.cells room_1.slots (T57.setTop (mkF m 79 #[.val (.int x0), .val (.int x1), .val (.int x2), .unset, .unset, .unset, .unset, .unset, .unset] [(.int (248 : Int32)), (.int (12 : Int32)), (.ref a1), (.ref a1)]))
    obtain ⟨u62, v62⟩ := id f58
    obtain ⟨T62, h62, X62, e62, W62, st62⟩ := own_iast X57 hx hZ e57 v62 (i := 12) rfl (by decide) (g := (mkF m 79 #[.val (.int x0), .val (.int x1), .val (.int x2), .unset, .unset, .unset, .unset, .unset, .unset] [(.int (248 : Int32)), (.int (12 : Int32)), (.ref a1), (.ref a1)])) rfl rfl (hb hby at_79)
    refine own_Goes.step st62 ?_
    have f63 := f58.set W62
    have K64 := K59.wr W62 (Or.inr Kh1)
    have N65 := Fr.snoc X62 N60 ga1
    have Z66 : n0 ≤ h62.size := Nat.le_trans Z61 (Keep.of_wr W62).1
    show own_Goes p e below s (own_F0 Z x0 x1 x2 n0 h0) room_1.cells room_1.slots (T62.setTop (mkF m 80 #[.val (.int x0), .val (.int x1), .val (.int x2), .unset, .unset, .unset, .unset, .unset, .unset] [(.ref a1)]))
    refine own_Goes.step (fun t k => XS.dup X62.here hx rfl (hb hby at_80) rfl rfl k) ?_
    show own_Goes p e below s (own_F0 Z x0 x1 x2 n0 h0) room_1.cells room_1.slots (T62.setTop (mkF m 81 #[.val (.int x0), .val (.int x1), .val (.int x2), .unset, .unset, .unset, .unset, .unset, .unset] [(.ref a1), (.ref a1)]))
    refine own_Goes.step (fun t k => XT.bipushV X62.here hx rfl (13 : Int32) (hb hby at_81) (by decide) k) ?_
    show own_Goes p e below s (own_F0 Z x0 x1 x2 n0 h0) room_1.cells room_1.slots (T62.setTop (mkF m 83 #[.val (.int x0), .val (.int x1), .val (.int x2), .unset, .unset, .unset, .unset, .unset, .unset] [(.int (13 : Int32)), (.ref a1), (.ref a1)]))
    refine own_Goes.step (fun t k => XT.sipushV X62.here hx rfl (767 : Int32) (hb hby at_83) (by decide) k) ?_
    show own_Goes p e below s (own_F0 Z x0 x1 x2 n0 h0) room_1.cells room_1.slots (T62.setTop (mkF m 86 #[.val (.int x0), .val (.int x1), .val (.int x2), .unset, .unset, .unset, .unset, .unset, .unset] [(.int (767 : Int32)), (.int (13 : Int32)), (.ref a1), (.ref a1)]))
    obtain ⟨u67, v67⟩ := id f63
    obtain ⟨T67, h67, X67, e67, W67, st67⟩ := own_iast X62 hx hZ e62 v67 (i := 13) rfl (by decide) (g := (mkF m 86 #[.val (.int x0), .val (.int x1), .val (.int x2), .unset, .unset, .unset, .unset, .unset, .unset] [(.int (767 : Int32)), (.int (13 : Int32)), (.ref a1), (.ref a1)])) rfl rfl (hb hby at_86)
    refine own_Goes.step st67 ?_
    have f68 := f63.set W67
    have K69 := K64.wr W67 (Or.inr Kh1)
    have N70 := Fr.snoc X67 N65 ga1
    have Z71 : n0 ≤ h67.size := Nat.le_trans Z66 (Keep.of_wr W67).1
    show own_Goes p e below s (own_F0 Z x0 x1 x2 n0 h0) room_1.cells room_1.slots (T67.setTop (mkF m 87 #[.val (.int x0), .val (.int x1), .val (.int x2), .unset, .unset, .unset, .unset, .unset, .unset] [(.ref a1)]))
    refine own_Goes.step (fun t k => XS.dup X67.here hx rfl (hb hby at_87) rfl rfl k) ?_
    show own_Goes p e below s (own_F0 Z x0 x1 x2 n0 h0) room_1.cells room_1.slots (T67.setTop (mkF m 88 #[.val (.int x0), .val (.int x1), .val (.int x2), .unset, .unset, .unset, .unset, .unset, .unset] [(.ref a1), (.ref a1)]))
    refine own_Goes.step (fun t k => XT.bipushV X67.here hx rfl (14 : Int32) (hb hby at_88) (by decide) k) ?_
    show own_Goes p e below s (own_F0 Z x0 x1 x2 n0 h0) room_1.cells room_1.slots (T67.setTop (mkF m 90 #[.val (.int x0), .val (.int x1), .val (.int x2), .unset, .unset, .unset, .unset, .unset, .unset] [(.int (14 : Int32)), (.ref a1), (.ref a1)]))
    refine own_Goes.step (fun t k => XT.sipushV X67.here hx rfl (880 : Int32) (hb hby at_90) (by decide) k) ?_
    show own_Goes p e below s (own_F0 Z x0 x1 x2 n0 h0) room_1.cells room_1.slots (T67.setTop (mkF m 93 #[.val (.int x0), .val (.int x1), .val (.int x2), .unset, .unset, .unset, .unset, .unset, .unset] [(.int (880 : Int32)), (.int (14 : Int32)), (.ref a1), (.ref a1)]))
    obtain ⟨u72, v72⟩ := id f68
    obtain ⟨T72, h72, X72, e72, W72, st72⟩ := own_iast X67 hx hZ e67 v72 (i := 14) rfl (by decide) (g := (mkF m 93 #[.val (.int x0), .val (.int x1), .val (.int x2), .unset, .unset, .unset, .unset, .unset, .unset] [(.int (880 : Int32)), (.int (14 : Int32)), (.ref a1), (.ref a1)])) rfl rfl (hb hby at_93)
    refine own_Goes.step st72 ?_
    have f73 := f68.set W72
    have K74 := K69.wr W72 (Or.inr Kh1)
    have N75 := Fr.snoc X72 N70 ga1
    have Z76 : n0 ≤ h72.size := Nat.le_trans Z71 (Keep.of_wr W72).1
    show own_Goes p e below s (own_F0 Z x0 x1 x2 n0 h0) room_1.cells room_1.slots (T72.setTop (mkF m 94 #[.val (.int x0), .val (.int x1), .val (.int x2), .unset, .unset, .unset, .unset, .unset, .unset] [(.ref a1)]))
    refine own_Goes.step (fun t k => XS.dup X72.here hx rfl (hb hby at_94) rfl rfl k) ?_
    show own_Goes p e below s (own_F0 Z x0 x1 x2 n0 h0) room_1.cells room_1.slots (T72.setTop (mkF m 95 #[.val (.int x0), .val (.int x1), .val (.int x2), .unset, .unset, .unset, .unset, .unset, .unset] [(.ref a1), (.ref a1)]))
    refine own_Goes.step (fun t k => XT.bipushV X72.here hx rfl (15 : Int32) (hb hby at_95) (by decide) k) ?_
    show own_Goes p e below s (own_F0 Z x0 x1 x2 n0 h0) room_1.cells room_1.slots (T72.setTop (mkF m 97 #[.val (.int x0), .val (.int x1), .val (.int x2), .unset, .unset, .unset, .unset, .unset, .unset] [(.int (15 : Int32)), (.ref a1), (.ref a1)]))
    refine own_Goes.step (fun t k => XT.sipushV X72.here hx rfl (893 : Int32) (hb hby at_97) (by decide) k) ?_
    show own_Goes p e below s (own_F0 Z x0 x1 x2 n0 h0) room_1.cells room_1.slots (T72.setTop (mkF m 100 #[.val (.int x0), .val (.int x1), .val (.int x2), .unset, .unset, .unset, .unset, .unset, .unset] [(.int (893 : Int32)), (.int (15 : Int32)), (.ref a1), (.ref a1)]))
    obtain ⟨u77, v77⟩ := id f73
    obtain ⟨T77, h77, X77, e77, W77, st77⟩ := own_iast X72 hx hZ e72 v77 (i := 15) rfl (by decide) (g := (mkF m 100 #[.val (.int x0), .val (.int x1), .val (.int x2), .unset, .unset, .unset, .unset, .unset, .unset] [(.int (893 : Int32)), (.int (15 : Int32)), (.ref a1), (.ref a1)])) rfl rfl (hb hby at_100)
    refine own_Goes.step st77 ?_
    have f78 := f73.set W77
    have K79 := K74.wr W77 (Or.inr Kh1)
    have N80 := Fr.snoc X77 N75 ga1
    have Z81 : n0 ≤ h77.size := Nat.le_trans Z76 (Keep.of_wr W77).1
    show own_Goes p e below s (own_F0 Z x0 x1 x2 n0 h0) room_1.cells room_1.slots (T77.setTop (mkF m 101 #[.val (.int x0), .val (.int x1), .val (.int x2), .unset, .unset, .unset, .unset, .unset, .unset] [(.ref a1)]))
    refine own_Goes.step (fun t k => XS.dup X77.here hx rfl (hb hby at_101) rfl rfl k) ?_
    show own_Goes p e below s (own_F0 Z x0 x1 x2 n0 h0) room_1.cells room_1.slots (T77.setTop (mkF m 102 #[.val (.int x0), .val (.int x1), .val (.int x2), .unset, .unset, .unset, .unset, .unset, .unset] [(.ref a1), (.ref a1)]))
    refine own_Goes.step (fun t k => XT.bipushV X77.here hx rfl (16 : Int32) (hb hby at_102) (by decide) k) ?_
    show own_Goes p e below s (own_F0 Z x0 x1 x2 n0 h0) room_1.cells room_1.slots (T77.setTop (mkF m 104 #[.val (.int x0), .val (.int x1), .val (.int x2), .unset, .unset, .unset, .unset, .unset, .unset] [(.int (16 : Int32)), (.ref a1), (.ref a1)]))
    refine own_Goes.step (fun t k => XT.sipushV X77.here hx rfl (895 : Int32) (hb hby at_104) (by decide) k) ?_
    show own_Goes p e below s (own_F0 Z x0 x1 x2 n0 h0) room_1.cells room_1.slots (T77.setTop (mkF m 107 #[.val (.int x0), .val (.int x1), .val (.int x2), .unset, .unset, .unset, .unset, .unset, .unset] [(.int (895 : Int32)), (.int (16 : Int32)), (.ref a1), (.ref a1)]))
    obtain ⟨u82, v82⟩ := id f78
    obtain ⟨T82, h82, X82, e82, W82, st82⟩ := own_iast X77 hx hZ e77 v82 (i := 16) rfl (by decide) (g := (mkF m 107 #[.val (.int x0), .val (.int x1), .val (.int x2), .unset, .unset, .unset, .unset, .unset, .unset] [(.int (895 : Int32)), (.int (16 : Int32)), (.ref a1), (.ref a1)])) rfl rfl (hb hby at_107)
    refine own_Goes.step st82 ?_
    have f83 := f78.set W82
    have K84 := K79.wr W82 (Or.inr Kh1)
    have N85 := Fr.snoc X82 N80 ga1
    have Z86 : n0 ≤ h82.size := Nat.le_trans Z81 (Keep.of_wr W82).1
    show own_Goes p e below s (own_F0 Z x0 x1 x2 n0 h0) room_1.cells room_1.slots (T82.setTop (mkF m 108 #[.val (.int x0), .val (.int x1), .val (.int x2), .unset, .unset, .unset, .unset, .unset, .unset] [(.ref a1)]))
    refine own_Goes.step (fun t k => XS.dup X82.here hx rfl (hb hby at_108) rfl rfl k) ?_
    show own_Goes p e below s (own_F0 Z x0 x1 x2 n0 h0) room_1.cells room_1.slots (T82.setTop (mkF m 109 #[.val (.int x0), .val (.int x1), .val (.int x2), .unset, .unset, .unset, .unset, .unset, .unset] [(.ref a1), (.ref a1)]))
    refine own_Goes.step (fun t k => XT.bipushV X82.here hx rfl (17 : Int32) (hb hby at_109) (by decide) k) ?_
    show own_Goes p e below s (own_F0 Z x0 x1 x2 n0 h0) room_1.cells room_1.slots (T82.setTop (mkF m 111 #[.val (.int x0), .val (.int x1), .val (.int x2), .unset, .unset, .unset, .unset, .unset, .unset] [(.int (17 : Int32)), (.ref a1), (.ref a1)]))
    refine own_Goes.step (fun t k => XT.sipushV X82.here hx rfl (8191 : Int32) (hb hby at_111) (by decide) k) ?_
    show own_Goes p e below s (own_F0 Z x0 x1 x2 n0 h0) room_1.cells room_1.slots (T82.setTop (mkF m 114 #[.val (.int x0), .val (.int x1), .val (.int x2), .unset, .unset, .unset, .unset, .unset, .unset] [(.int (8191 : Int32)), (.int (17 : Int32)), (.ref a1), (.ref a1)]))
    obtain ⟨u87, v87⟩ := id f83
    obtain ⟨T87, h87, X87, e87, W87, st87⟩ := own_iast X82 hx hZ e82 v87 (i := 17) rfl (by decide) (g := (mkF m 114 #[.val (.int x0), .val (.int x1), .val (.int x2), .unset, .unset, .unset, .unset, .unset, .unset] [(.int (8191 : Int32)), (.int (17 : Int32)), (.ref a1), (.ref a1)])) rfl rfl (hb hby at_114)
    refine own_Goes.step st87 ?_
    have f88 := f83.set W87
    have K89 := K84.wr W87 (Or.inr Kh1)
    have N90 := Fr.snoc X87 N85 ga1
    have Z91 : n0 ≤ h87.size := Nat.le_trans Z86 (Keep.of_wr W87).1
    show own_Goes p e below s (own_F0 Z x0 x1 x2 n0 h0) room_1.cells room_1.slots (T87.setTop (mkF m 115 #[.val (.int x0), .val (.int x1), .val (.int x2), .unset, .unset, .unset, .unset, .unset, .unset] [(.ref a1)]))
    refine own_Goes.step (fun t k => XS.dup X87.here hx rfl (hb hby at_115) rfl rfl k) ?_
    show own_Goes p e below s (own_F0 Z x0 x1 x2 n0 h0) room_1.cells room_1.slots (T87.setTop (mkF m 116 #[.val (.int x0), .val (.int x1), .val (.int x2), .unset, .unset, .unset, .unset, .unset, .unset] [(.ref a1), (.ref a1)]))
    refine own_Goes.step (fun t k => XT.bipushV X87.here hx rfl (18 : Int32) (hb hby at_116) (by decide) k) ?_
    show own_Goes p e below s (own_F0 Z x0 x1 x2 n0 h0) room_1.cells room_1.slots (T87.setTop (mkF m 118 #[.val (.int x0), .val (.int x1), .val (.int x2), .unset, .unset, .unset, .unset, .unset, .unset] [(.int (18 : Int32)), (.ref a1), (.ref a1)]))
    refine own_Goes.step (fun t k => XT.sipushV X87.here hx rfl (8204 : Int32) (hb hby at_118) (by decide) k) ?_
    show own_Goes p e below s (own_F0 Z x0 x1 x2 n0 h0) room_1.cells room_1.slots (T87.setTop (mkF m 121 #[.val (.int x0), .val (.int x1), .val (.int x2), .unset, .unset, .unset, .unset, .unset, .unset] [(.int (8204 : Int32)), (.int (18 : Int32)), (.ref a1), (.ref a1)]))
    obtain ⟨u92, v92⟩ := id f88
    obtain ⟨T92, h92, X92, e92, W92, st92⟩ := own_iast X87 hx hZ e87 v92 (i := 18) rfl (by decide) (g := (mkF m 121 #[.val (.int x0), .val (.int x1), .val (.int x2), .unset, .unset, .unset, .unset, .unset, .unset] [(.int (8204 : Int32)), (.int (18 : Int32)), (.ref a1), (.ref a1)])) rfl rfl (hb hby at_121)
    refine own_Goes.step st92 ?_
    have f93 := f88.set W92
    have K94 := K89.wr W92 (Or.inr Kh1)
    have N95 := Fr.snoc X92 N90 ga1
    have Z96 : n0 ≤ h92.size := Nat.le_trans Z91 (Keep.of_wr W92).1
    show own_Goes p e below s (own_F0 Z x0 x1 x2 n0 h0) room_1.cells room_1.slots (T92.setTop (mkF m 122 #[.val (.int x0), .val (.int x1), .val (.int x2), .unset, .unset, .unset, .unset, .unset, .unset] [(.ref a1)]))
    refine own_Goes.step (fun t k => XS.dup X92.here hx rfl (hb hby at_122) rfl rfl k) ?_
    show own_Goes p e below s (own_F0 Z x0 x1 x2 n0 h0) room_1.cells room_1.slots (T92.setTop (mkF m 123 #[.val (.int x0), .val (.int x1), .val (.int x2), .unset, .unset, .unset, .unset, .unset, .unset] [(.ref a1), (.ref a1)]))
    refine own_Goes.step (fun t k => XT.bipushV X92.here hx rfl (19 : Int32) (hb hby at_123) (by decide) k) ?_
    show own_Goes p e below s (own_F0 Z x0 x1 x2 n0 h0) room_1.cells room_1.slots (T92.setTop (mkF m 125 #[.val (.int x0), .val (.int x1), .val (.int x2), .unset, .unset, .unset, .unset, .unset, .unset] [(.int (19 : Int32)), (.ref a1), (.ref a1)]))
    refine own_Goes.step (fun t k => XT.sipushV X92.here hx rfl (8205 : Int32) (hb hby at_125) (by decide) k) ?_
    show own_Goes p e below s (own_F0 Z x0 x1 x2 n0 h0) room_1.cells room_1.slots (T92.setTop (mkF m 128 #[.val (.int x0), .val (.int x1), .val (.int x2), .unset, .unset, .unset, .unset, .unset, .unset] [(.int (8205 : Int32)), (.int (19 : Int32)), (.ref a1), (.ref a1)]))
    obtain ⟨u97, v97⟩ := id f93
    obtain ⟨T97, h97, X97, e97, W97, st97⟩ := own_iast X92 hx hZ e92 v97 (i := 19) rfl (by decide) (g := (mkF m 128 #[.val (.int x0), .val (.int x1), .val (.int x2), .unset, .unset, .unset, .unset, .unset, .unset] [(.int (8205 : Int32)), (.int (19 : Int32)), (.ref a1), (.ref a1)])) rfl rfl (hb hby at_128)
    refine own_Goes.step st97 ?_
    have f98 := f93.set W97
    have K99 := K94.wr W97 (Or.inr Kh1)
    have N100 := Fr.snoc X97 N95 ga1
    have Z101 : n0 ≤ h97.size := Nat.le_trans Z96 (Keep.of_wr W97).1
    show own_Goes p e below s (own_F0 Z x0 x1 x2 n0 h0) room_1.cells room_1.slots (T97.setTop (mkF m 129 #[.val (.int x0), .val (.int x1), .val (.int x2), .unset, .unset, .unset, .unset, .unset, .unset] [(.ref a1)]))
    refine own_Goes.step (fun t k => XS.dup X97.here hx rfl (hb hby at_129) rfl rfl k) ?_
    show own_Goes p e below s (own_F0 Z x0 x1 x2 n0 h0) room_1.cells room_1.slots (T97.setTop (mkF m 130 #[.val (.int x0), .val (.int x1), .val (.int x2), .unset, .unset, .unset, .unset, .unset, .unset] [(.ref a1), (.ref a1)]))
    refine own_Goes.step (fun t k => XT.bipushV X97.here hx rfl (20 : Int32) (hb hby at_130) (by decide) k) ?_
    show own_Goes p e below s (own_F0 Z x0 x1 x2 n0 h0) room_1.cells room_1.slots (T97.setTop (mkF m 132 #[.val (.int x0), .val (.int x1), .val (.int x2), .unset, .unset, .unset, .unset, .unset, .unset] [(.int (20 : Int32)), (.ref a1), (.ref a1)]))
    refine own_Goes.step (fun t k => XT.sipushV X97.here hx rfl (8304 : Int32) (hb hby at_132) (by decide) k) ?_
    show own_Goes p e below s (own_F0 Z x0 x1 x2 n0 h0) room_1.cells room_1.slots (T97.setTop (mkF m 135 #[.val (.int x0), .val (.int x1), .val (.int x2), .unset, .unset, .unset, .unset, .unset, .unset] [(.int (8304 : Int32)), (.int (20 : Int32)), (.ref a1), (.ref a1)]))
    obtain ⟨u102, v102⟩ := id f98
    obtain ⟨T102, h102, X102, e102, W102, st102⟩ := own_iast X97 hx hZ e97 v102 (i := 20) rfl (by decide) (g := (mkF m 135 #[.val (.int x0), .val (.int x1), .val (.int x2), .unset, .unset, .unset, .unset, .unset, .unset] [(.int (8304 : Int32)), (.int (20 : Int32)), (.ref a1), (.ref a1)])) rfl rfl (hb hby at_135)
    refine own_Goes.step st102 ?_
    have f103 := f98.set W102
    have K104 := K99.wr W102 (Or.inr Kh1)
    have N105 := Fr.snoc X102 N100 ga1
    have Z106 : n0 ≤ h102.size := Nat.le_trans Z101 (Keep.of_wr W102).1
    show own_Goes p e below s (own_F0 Z x0 x1 x2 n0 h0) room_1.cells room_1.slots (T102.setTop (mkF m 136 #[.val (.int x0), .val (.int x1), .val (.int x2), .unset, .unset, .unset, .unset, .unset, .unset] [(.ref a1)]))
    refine own_Goes.step (fun t k => XS.dup X102.here hx rfl (hb hby at_136) rfl rfl k) ?_
    show own_Goes p e below s (own_F0 Z x0 x1 x2 n0 h0) room_1.cells room_1.slots (T102.setTop (mkF m 137 #[.val (.int x0), .val (.int x1), .val (.int x2), .unset, .unset, .unset, .unset, .unset, .unset] [(.ref a1), (.ref a1)]))
    refine own_Goes.step (fun t k => XT.bipushV X102.here hx rfl (21 : Int32) (hb hby at_137) (by decide) k) ?_
    show own_Goes p e below s (own_F0 Z x0 x1 x2 n0 h0) room_1.cells room_1.slots (T102.setTop (mkF m 139 #[.val (.int x0), .val (.int x1), .val (.int x2), .unset, .unset, .unset, .unset, .unset, .unset] [(.int (21 : Int32)), (.ref a1), (.ref a1)]))
    refine own_Goes.step (fun t k => XT.sipushV X102.here hx rfl (8591 : Int32) (hb hby at_139) (by decide) k) ?_
    show own_Goes p e below s (own_F0 Z x0 x1 x2 n0 h0) room_1.cells room_1.slots (T102.setTop (mkF m 142 #[.val (.int x0), .val (.int x1), .val (.int x2), .unset, .unset, .unset, .unset, .unset, .unset] [(.int (8591 : Int32)), (.int (21 : Int32)), (.ref a1), (.ref a1)]))
    obtain ⟨u107, v107⟩ := id f103
    obtain ⟨T107, h107, X107, e107, W107, st107⟩ := own_iast X102 hx hZ e102 v107 (i := 21) rfl (by decide) (g := (mkF m 142 #[.val (.int x0), .val (.int x1), .val (.int x2), .unset, .unset, .unset, .unset, .unset, .unset] [(.int (8591 : Int32)), (.int (21 : Int32)), (.ref a1), (.ref a1)])) rfl rfl (hb hby at_142)
    refine own_Goes.step st107 ?_
    have f108 := f103.set W107
    have K109 := K104.wr W107 (Or.inr Kh1)
    have N110 := Fr.snoc X107 N105 ga1
    have Z111 : n0 ≤ h107.size := Nat.le_trans Z106 (Keep.of_wr W107).1
    show own_Goes p e below s (own_F0 Z x0 x1 x2 n0 h0) room_1.cells room_1.slots (T107.setTop (mkF m 143 #[.val (.int x0), .val (.int x1), .val (.int x2), .unset, .unset, .unset, .unset, .unset, .unset] [(.ref a1)]))
    refine own_Goes.step (fun t k => XS.dup X107.here hx rfl (hb hby at_143) rfl rfl k) ?_
    show own_Goes p e below s (own_F0 Z x0 x1 x2 n0 h0) room_1.cells room_1.slots (T107.setTop (mkF m 144 #[.val (.int x0), .val (.int x1), .val (.int x2), .unset, .unset, .unset, .unset, .unset, .unset] [(.ref a1), (.ref a1)]))
    refine own_Goes.step (fun t k => XT.bipushV X107.here hx rfl (22 : Int32) (hb hby at_144) (by decide) k) ?_
    show own_Goes p e below s (own_F0 Z x0 x1 x2 n0 h0) room_1.cells room_1.slots (T107.setTop (mkF m 146 #[.val (.int x0), .val (.int x1), .val (.int x2), .unset, .unset, .unset, .unset, .unset, .unset] [(.int (22 : Int32)), (.ref a1), (.ref a1)]))
    refine own_Goes.step (fun t k => XT.sipushV X107.here hx rfl (11264 : Int32) (hb hby at_146) (by decide) k) ?_
    show own_Goes p e below s (own_F0 Z x0 x1 x2 n0 h0) room_1.cells room_1.slots (T107.setTop (mkF m 149 #[.val (.int x0), .val (.int x1), .val (.int x2), .unset, .unset, .unset, .unset, .unset, .unset] [(.int (11264 : Int32)), (.int (22 : Int32)), (.ref a1), (.ref a1)]))
    obtain ⟨u112, v112⟩ := id f108
    obtain ⟨T112, h112, X112, e112, W112, st112⟩ := own_iast X107 hx hZ e107 v112 (i := 22) rfl (by decide) (g := (mkF m 149 #[.val (.int x0), .val (.int x1), .val (.int x2), .unset, .unset, .unset, .unset, .unset, .unset] [(.int (11264 : Int32)), (.int (22 : Int32)), (.ref a1), (.ref a1)])) rfl rfl (hb hby at_149)
    refine own_Goes.step st112 ?_
    have f113 := f108.set W112
    have K114 := K109.wr W112 (Or.inr Kh1)
    have N115 := Fr.snoc X112 N110 ga1
    have Z116 : n0 ≤ h112.size := Nat.le_trans Z111 (Keep.of_wr W112).1
    show own_Goes p e below s (own_F0 Z x0 x1 x2 n0 h0) room_1.cells room_1.slots (T112.setTop (mkF m 150 #[.val (.int x0), .val (.int x1), .val (.int x2), .unset, .unset, .unset, .unset, .unset, .unset] [(.ref a1)]))
    refine own_Goes.step (fun t k => XS.dup X112.here hx rfl (hb hby at_150) rfl rfl k) ?_
    show own_Goes p e below s (own_F0 Z x0 x1 x2 n0 h0) room_1.cells room_1.slots (T112.setTop (mkF m 151 #[.val (.int x0), .val (.int x1), .val (.int x2), .unset, .unset, .unset, .unset, .unset, .unset] [(.ref a1), (.ref a1)]))
    refine own_Goes.step (fun t k => XT.bipushV X112.here hx rfl (23 : Int32) (hb hby at_151) (by decide) k) ?_
    show own_Goes p e below s (own_F0 Z x0 x1 x2 n0 h0) room_1.cells room_1.slots (T112.setTop (mkF m 153 #[.val (.int x0), .val (.int x1), .val (.int x2), .unset, .unset, .unset, .unset, .unset, .unset] [(.int (23 : Int32)), (.ref a1), (.ref a1)]))
    refine own_Goes.step (fun t k => XT.sipushV X112.here hx rfl (12271 : Int32) (hb hby at_153) (by decide) k) ?_
    show own_Goes p e below s (own_F0 Z x0 x1 x2 n0 h0) room_1.cells room_1.slots (T112.setTop (mkF m 156 #[.val (.int x0), .val (.int x1), .val (.int x2), .unset, .unset, .unset, .unset, .unset, .unset] [(.int (12271 : Int32)), (.int (23 : Int32)), (.ref a1), (.ref a1)]))
    obtain ⟨u117, v117⟩ := id f113
    obtain ⟨T117, h117, X117, e117, W117, st117⟩ := own_iast X112 hx hZ e112 v117 (i := 23) rfl (by decide) (g := (mkF m 156 #[.val (.int x0), .val (.int x1), .val (.int x2), .unset, .unset, .unset, .unset, .unset, .unset] [(.int (12271 : Int32)), (.int (23 : Int32)), (.ref a1), (.ref a1)])) rfl rfl (hb hby at_156)
    refine own_Goes.step st117 ?_
    have f118 := f113.set W117
    have K119 := K114.wr W117 (Or.inr Kh1)
    have N120 := Fr.snoc X117 N115 ga1
    have Z121 : n0 ≤ h117.size := Nat.le_trans Z116 (Keep.of_wr W117).1
    show own_Goes p e below s (own_F0 Z x0 x1 x2 n0 h0) room_1.cells room_1.slots (T117.setTop (mkF m 157 #[.val (.int x0), .val (.int x1), .val (.int x2), .unset, .unset, .unset, .unset, .unset, .unset] [(.ref a1)]))
    refine own_Goes.step (fun t k => XS.dup X117.here hx rfl (hb hby at_157) rfl rfl k) ?_
    show own_Goes p e below s (own_F0 Z x0 x1 x2 n0 h0) room_1.cells room_1.slots (T117.setTop (mkF m 158 #[.val (.int x0), .val (.int x1), .val (.int x2), .unset, .unset, .unset, .unset, .unset, .unset] [(.ref a1), (.ref a1)]))
    refine own_Goes.step (fun t k => XT.bipushV X117.here hx rfl (24 : Int32) (hb hby at_158) (by decide) k) ?_
    show own_Goes p e below s (own_F0 Z x0 x1 x2 n0 h0) room_1.cells room_1.slots (T117.setTop (mkF m 160 #[.val (.int x0), .val (.int x1), .val (.int x2), .unset, .unset, .unset, .unset, .unset, .unset] [(.int (24 : Int32)), (.ref a1), (.ref a1)]))
    refine own_Goes.step (fun t k => XT.sipushV X117.here hx rfl (12289 : Int32) (hb hby at_160) (by decide) k) ?_
    show own_Goes p e below s (own_F0 Z x0 x1 x2 n0 h0) room_1.cells room_1.slots (T117.setTop (mkF m 163 #[.val (.int x0), .val (.int x1), .val (.int x2), .unset, .unset, .unset, .unset, .unset, .unset] [(.int (12289 : Int32)), (.int (24 : Int32)), (.ref a1), (.ref a1)]))
    obtain ⟨u122, v122⟩ := id f118
    obtain ⟨T122, h122, X122, e122, W122, st122⟩ := own_iast X117 hx hZ e117 v122 (i := 24) rfl (by decide) (g := (mkF m 163 #[.val (.int x0), .val (.int x1), .val (.int x2), .unset, .unset, .unset, .unset, .unset, .unset] [(.int (12289 : Int32)), (.int (24 : Int32)), (.ref a1), (.ref a1)])) rfl rfl (hb hby at_163)
    refine own_Goes.step st122 ?_
    have f123 := f118.set W122
    have K124 := K119.wr W122 (Or.inr Kh1)
    have N125 := Fr.snoc X122 N120 ga1
    have Z126 : n0 ≤ h122.size := Nat.le_trans Z121 (Keep.of_wr W122).1
    show own_Goes p e below s (own_F0 Z x0 x1 x2 n0 h0) room_1.cells room_1.slots (T122.setTop (mkF m 164 #[.val (.int x0), .val (.int x1), .val (.int x2), .unset, .unset, .unset, .unset, .unset, .unset] [(.ref a1)]))
    refine own_Goes.step (fun t k => XS.dup X122.here hx rfl (hb hby at_164) rfl rfl k) ?_
    show own_Goes p e below s (own_F0 Z x0 x1 x2 n0 h0) room_1.cells room_1.slots (T122.setTop (mkF m 165 #[.val (.int x0), .val (.int x1), .val (.int x2), .unset, .unset, .unset, .unset, .unset, .unset] [(.ref a1), (.ref a1)]))
    refine own_Goes.step (fun t k => XT.bipushV X122.here hx rfl (25 : Int32) (hb hby at_165) (by decide) k) ?_
    show own_Goes p e below s (own_F0 Z x0 x1 x2 n0 h0) room_1.cells room_1.slots (T122.setTop (mkF m 167 #[.val (.int x0), .val (.int x1), .val (.int x2), .unset, .unset, .unset, .unset, .unset, .unset] [(.int (25 : Int32)), (.ref a1), (.ref a1)]))
    refine own_Goes.step (fun t k => X122.ldcI hx hown (mvT hZ (hw _ (List.mem_of_getElem? (i := 1) rfl))) rfl (hb hby at_167) k) ?_
    show own_Goes p e below s (own_F0 Z x0 x1 x2 n0 h0) room_1.cells room_1.slots (T122.setTop (mkF m 169 #[.val (.int x0), .val (.int x1), .val (.int x2), .unset, .unset, .unset, .unset, .unset, .unset] [(.int (55295 : Int32)), (.int (25 : Int32)), (.ref a1), (.ref a1)]))
    obtain ⟨u127, v127⟩ := id f123
    obtain ⟨T127, h127, X127, e127, W127, st127⟩ := own_iast X122 hx hZ e122 v127 (i := 25) rfl (by decide) (g := (mkF m 169 #[.val (.int x0), .val (.int x1), .val (.int x2), .unset, .unset, .unset, .unset, .unset, .unset] [(.int (55295 : Int32)), (.int (25 : Int32)), (.ref a1), (.ref a1)])) rfl rfl (hb hby at_169)
    refine own_Goes.step st127 ?_
    have f128 := f123.set W127
    have K129 := K124.wr W127 (Or.inr Kh1)
    have N130 := Fr.snoc X127 N125 ga1
    have Z131 : n0 ≤ h127.size := Nat.le_trans Z126 (Keep.of_wr W127).1
    show own_Goes p e below s (own_F0 Z x0 x1 x2 n0 h0) room_1.cells room_1.slots (T127.setTop (mkF m 170 #[.val (.int x0), .val (.int x1), .val (.int x2), .unset, .unset, .unset, .unset, .unset, .unset] [(.ref a1)]))
    refine own_Goes.step (fun t k => XS.dup X127.here hx rfl (hb hby at_170) rfl rfl k) ?_
    show own_Goes p e below s (own_F0 Z x0 x1 x2 n0 h0) room_1.cells room_1.slots (T127.setTop (mkF m 171 #[.val (.int x0), .val (.int x1), .val (.int x2), .unset, .unset, .unset, .unset, .unset, .unset] [(.ref a1), (.ref a1)]))
    refine own_Goes.step (fun t k => XT.bipushV X127.here hx rfl (26 : Int32) (hb hby at_171) (by decide) k) ?_
    show own_Goes p e below s (own_F0 Z x0 x1 x2 n0 h0) room_1.cells room_1.slots (T127.setTop (mkF m 173 #[.val (.int x0), .val (.int x1), .val (.int x2), .unset, .unset, .unset, .unset, .unset, .unset] [(.int (26 : Int32)), (.ref a1), (.ref a1)]))
    refine own_Goes.step (fun t k => X127.ldcI hx hown (mvT hZ (hw _ (List.mem_of_getElem? (i := 2) rfl))) rfl (hb hby at_173) k) ?_
    show own_Goes p e below s (own_F0 Z x0 x1 x2 n0 h0) room_1.cells room_1.slots (T127.setTop (mkF m 175 #[.val (.int x0), .val (.int x1), .val (.int x2), .unset, .unset, .unset, .unset, .unset, .unset] [(.int (63744 : Int32)), (.int (26 : Int32)), (.ref a1), (.ref a1)]))
    obtain ⟨u132, v132⟩ := id f128
    obtain ⟨T132, h132, X132, e132, W132, st132⟩ := own_iast X127 hx hZ e127 v132 (i := 26) rfl (by decide) (g := (mkF m 175 #[.val (.int x0), .val (.int x1), .val (.int x2), .unset, .unset, .unset, .unset, .unset, .unset] [(.int (63744 : Int32)), (.int (26 : Int32)), (.ref a1), (.ref a1)])) rfl rfl (hb hby at_175)
    refine own_Goes.step st132 ?_
    have f133 := f128.set W132
    have K134 := K129.wr W132 (Or.inr Kh1)
    have N135 := Fr.snoc X132 N130 ga1
    have Z136 : n0 ≤ h132.size := Nat.le_trans Z131 (Keep.of_wr W132).1
    show own_Goes p e below s (own_F0 Z x0 x1 x2 n0 h0) room_1.cells room_1.slots (T132.setTop (mkF m 176 #[.val (.int x0), .val (.int x1), .val (.int x2), .unset, .unset, .unset, .unset, .unset, .unset] [(.ref a1)]))
    refine own_Goes.step (fun t k => XS.dup X132.here hx rfl (hb hby at_176) rfl rfl k) ?_
    show own_Goes p e below s (own_F0 Z x0 x1 x2 n0 h0) room_1.cells room_1.slots (T132.setTop (mkF m 177 #[.val (.int x0), .val (.int x1), .val (.int x2), .unset, .unset, .unset, .unset, .unset, .unset] [(.ref a1), (.ref a1)]))
    refine own_Goes.step (fun t k => XT.bipushV X132.here hx rfl (27 : Int32) (hb hby at_177) (by decide) k) ?_
    show own_Goes p e below s (own_F0 Z x0 x1 x2 n0 h0) room_1.cells room_1.slots (T132.setTop (mkF m 179 #[.val (.int x0), .val (.int x1), .val (.int x2), .unset, .unset, .unset, .unset, .unset, .unset] [(.int (27 : Int32)), (.ref a1), (.ref a1)]))
    refine own_Goes.step (fun t k => X132.ldcI hx hown (mvT hZ (hw _ (List.mem_of_getElem? (i := 3) rfl))) rfl (hb hby at_179) k) ?_
    show own_Goes p e below s (own_F0 Z x0 x1 x2 n0 h0) room_1.cells room_1.slots (T132.setTop (mkF m 181 #[.val (.int x0), .val (.int x1), .val (.int x2), .unset, .unset, .unset, .unset, .unset, .unset] [(.int (64975 : Int32)), (.int (27 : Int32)), (.ref a1), (.ref a1)]))
    obtain ⟨u137, v137⟩ := id f133
    obtain ⟨T137, h137, X137, e137, W137, st137⟩ := own_iast X132 hx hZ e132 v137 (i := 27) rfl (by decide) (g := (mkF m 181 #[.val (.int x0), .val (.int x1), .val (.int x2), .unset, .unset, .unset, .unset, .unset, .unset] [(.int (64975 : Int32)), (.int (27 : Int32)), (.ref a1), (.ref a1)])) rfl rfl (hb hby at_181)
    refine own_Goes.step st137 ?_
    have f138 := f133.set W137
    have K139 := K134.wr W137 (Or.inr Kh1)
    have N140 := Fr.snoc X137 N135 ga1
    have Z141 : n0 ≤ h137.size := Nat.le_trans Z136 (Keep.of_wr W137).1
    show own_Goes p e below s (own_F0 Z x0 x1 x2 n0 h0) room_1.cells room_1.slots (T137.setTop (mkF m 182 #[.val (.int x0), .val (.int x1), .val (.int x2), .unset, .unset, .unset, .unset, .unset, .unset] [(.ref a1)]))
    refine own_Goes.step (fun t k => XS.dup X137.here hx rfl (hb hby at_182) rfl rfl k) ?_
    show own_Goes p e below s (own_F0 Z x0 x1 x2 n0 h0) room_1.cells room_1.slots (T137.setTop (mkF m 183 #[.val (.int x0), .val (.int x1), .val (.int x2), .unset, .unset, .unset, .unset, .unset, .unset] [(.ref a1), (.ref a1)]))
    refine own_Goes.step (fun t k => XT.bipushV X137.here hx rfl (28 : Int32) (hb hby at_183) (by decide) k) ?_
    show own_Goes p e below s (own_F0 Z x0 x1 x2 n0 h0) room_1.cells room_1.slots (T137.setTop (mkF m 185 #[.val (.int x0), .val (.int x1), .val (.int x2), .unset, .unset, .unset, .unset, .unset, .unset] [(.int (28 : Int32)), (.ref a1), (.ref a1)]))
    refine own_Goes.step (fun t k => X137.ldcI hx hown (mvT hZ (hw _ (List.mem_of_getElem? (i := 4) rfl))) rfl (hb hby at_185) k) ?_
    show own_Goes p e below s (own_F0 Z x0 x1 x2 n0 h0) room_1.cells room_1.slots (T137.setTop (mkF m 187 #[.val (.int x0), .val (.int x1), .val (.int x2), .unset, .unset, .unset, .unset, .unset, .unset] [(.int (65008 : Int32)), (.int (28 : Int32)), (.ref a1), (.ref a1)]))
    obtain ⟨u142, v142⟩ := id f138
    obtain ⟨T142, h142, X142, e142, W142, st142⟩ := own_iast X137 hx hZ e137 v142 (i := 28) rfl (by decide) (g := (mkF m 187 #[.val (.int x0), .val (.int x1), .val (.int x2), .unset, .unset, .unset, .unset, .unset, .unset] [(.int (65008 : Int32)), (.int (28 : Int32)), (.ref a1), (.ref a1)])) rfl rfl (hb hby at_187)
    refine own_Goes.step st142 ?_
    have f143 := f138.set W142
    have K144 := K139.wr W142 (Or.inr Kh1)
    have N145 := Fr.snoc X142 N140 ga1
    have Z146 : n0 ≤ h142.size := Nat.le_trans Z141 (Keep.of_wr W142).1
    show own_Goes p e below s (own_F0 Z x0 x1 x2 n0 h0) room_1.cells room_1.slots (T142.setTop (mkF m 188 #[.val (.int x0), .val (.int x1), .val (.int x2), .unset, .unset, .unset, .unset, .unset, .unset] [(.ref a1)]))
    refine own_Goes.step (fun t k => XS.dup X142.here hx rfl (hb hby at_188) rfl rfl k) ?_
    show own_Goes p e below s (own_F0 Z x0 x1 x2 n0 h0) room_1.cells room_1.slots (T142.setTop (mkF m 189 #[.val (.int x0), .val (.int x1), .val (.int x2), .unset, .unset, .unset, .unset, .unset, .unset] [(.ref a1), (.ref a1)]))
    refine own_Goes.step (fun t k => XT.bipushV X142.here hx rfl (29 : Int32) (hb hby at_189) (by decide) k) ?_
    show own_Goes p e below s (own_F0 Z x0 x1 x2 n0 h0) room_1.cells room_1.slots (T142.setTop (mkF m 191 #[.val (.int x0), .val (.int x1), .val (.int x2), .unset, .unset, .unset, .unset, .unset, .unset] [(.int (29 : Int32)), (.ref a1), (.ref a1)]))
    refine own_Goes.step (fun t k => X142.ldcI hx hown (mvT hZ (hw _ (List.mem_of_getElem? (i := 5) rfl))) rfl (hb hby at_191) k) ?_
    show own_Goes p e below s (own_F0 Z x0 x1 x2 n0 h0) room_1.cells room_1.slots (T142.setTop (mkF m 193 #[.val (.int x0), .val (.int x1), .val (.int x2), .unset, .unset, .unset, .unset, .unset, .unset] [(.int (65533 : Int32)), (.int (29 : Int32)), (.ref a1), (.ref a1)]))
    obtain ⟨u147, v147⟩ := id f143
    obtain ⟨T147, h147, X147, e147, W147, st147⟩ := own_iast X142 hx hZ e142 v147 (i := 29) rfl (by decide) (g := (mkF m 193 #[.val (.int x0), .val (.int x1), .val (.int x2), .unset, .unset, .unset, .unset, .unset, .unset] [(.int (65533 : Int32)), (.int (29 : Int32)), (.ref a1), (.ref a1)])) rfl rfl (hb hby at_193)
    refine own_Goes.step st147 ?_
    have f148 := f143.set W147
    have K149 := K144.wr W147 (Or.inr Kh1)
    have N150 := Fr.snoc X147 N145 ga1
    have Z151 : n0 ≤ h147.size := Nat.le_trans Z146 (Keep.of_wr W147).1
    show own_Goes p e below s (own_F0 Z x0 x1 x2 n0 h0) room_1.cells room_1.slots (T147.setTop (mkF m 194 #[.val (.int x0), .val (.int x1), .val (.int x2), .unset, .unset, .unset, .unset, .unset, .unset] [(.ref a1)]))
    refine own_Goes.step (fun t k => XS.dup X147.here hx rfl (hb hby at_194) rfl rfl k) ?_
    show own_Goes p e below s (own_F0 Z x0 x1 x2 n0 h0) room_1.cells room_1.slots (T147.setTop (mkF m 195 #[.val (.int x0), .val (.int x1), .val (.int x2), .unset, .unset, .unset, .unset, .unset, .unset] [(.ref a1), (.ref a1)]))
    refine own_Goes.step (fun t k => XT.bipushV X147.here hx rfl (30 : Int32) (hb hby at_195) (by decide) k) ?_
    show own_Goes p e below s (own_F0 Z x0 x1 x2 n0 h0) room_1.cells room_1.slots (T147.setTop (mkF m 197 #[.val (.int x0), .val (.int x1), .val (.int x2), .unset, .unset, .unset, .unset, .unset, .unset] [(.int (30 : Int32)), (.ref a1), (.ref a1)]))
    refine own_Goes.step (fun t k => X147.ldcI hx hown (mvT hZ (hw _ (List.mem_of_getElem? (i := 6) rfl))) rfl (hb hby at_197) k) ?_
    show own_Goes p e below s (own_F0 Z x0 x1 x2 n0 h0) room_1.cells room_1.slots (T147.setTop (mkF m 199 #[.val (.int x0), .val (.int x1), .val (.int x2), .unset, .unset, .unset, .unset, .unset, .unset] [(.int (65536 : Int32)), (.int (30 : Int32)), (.ref a1), (.ref a1)]))
    obtain ⟨u152, v152⟩ := id f148
    obtain ⟨T152, h152, X152, e152, W152, st152⟩ := own_iast X147 hx hZ e147 v152 (i := 30) rfl (by decide) (g := (mkF m 199 #[.val (.int x0), .val (.int x1), .val (.int x2), .unset, .unset, .unset, .unset, .unset, .unset] [(.int (65536 : Int32)), (.int (30 : Int32)), (.ref a1), (.ref a1)])) rfl rfl (hb hby at_199)
    refine own_Goes.step st152 ?_
    have f153 := f148.set W152
    have K154 := K149.wr W152 (Or.inr Kh1)
    have N155 := Fr.snoc X152 N150 ga1
    have Z156 : n0 ≤ h152.size := Nat.le_trans Z151 (Keep.of_wr W152).1
    show own_Goes p e below s (own_F0 Z x0 x1 x2 n0 h0) room_1.cells room_1.slots (T152.setTop (mkF m 200 #[.val (.int x0), .val (.int x1), .val (.int x2), .unset, .unset, .unset, .unset, .unset, .unset] [(.ref a1)]))
    refine own_Goes.step (fun t k => XS.dup X152.here hx rfl (hb hby at_200) rfl rfl k) ?_
    show own_Goes p e below s (own_F0 Z x0 x1 x2 n0 h0) room_1.cells room_1.slots (T152.setTop (mkF m 201 #[.val (.int x0), .val (.int x1), .val (.int x2), .unset, .unset, .unset, .unset, .unset, .unset] [(.ref a1), (.ref a1)]))
    refine own_Goes.step (fun t k => XT.bipushV X152.here hx rfl (31 : Int32) (hb hby at_201) (by decide) k) ?_
    show own_Goes p e below s (own_F0 Z x0 x1 x2 n0 h0) room_1.cells room_1.slots (T152.setTop (mkF m 203 #[.val (.int x0), .val (.int x1), .val (.int x2), .unset, .unset, .unset, .unset, .unset, .unset] [(.int (31 : Int32)), (.ref a1), (.ref a1)]))
    refine own_Goes.step (fun t k => X152.ldcI hx hown (mvT hZ (hw _ (List.mem_of_getElem? (i := 7) rfl))) rfl (hb hby at_203) k) ?_
    show own_Goes p e below s (own_F0 Z x0 x1 x2 n0 h0) room_1.cells room_1.slots (T152.setTop (mkF m 205 #[.val (.int x0), .val (.int x1), .val (.int x2), .unset, .unset, .unset, .unset, .unset, .unset] [(.int (983039 : Int32)), (.int (31 : Int32)), (.ref a1), (.ref a1)]))
    obtain ⟨u157, v157⟩ := id f153
    obtain ⟨T157, h157, X157, e157, W157, st157⟩ := own_iast X152 hx hZ e152 v157 (i := 31) rfl (by decide) (g := (mkF m 205 #[.val (.int x0), .val (.int x1), .val (.int x2), .unset, .unset, .unset, .unset, .unset, .unset] [(.int (983039 : Int32)), (.int (31 : Int32)), (.ref a1), (.ref a1)])) rfl rfl (hb hby at_205)
    refine own_Goes.step st157 ?_
    have f158 := f153.set W157
    have K159 := K154.wr W157 (Or.inr Kh1)
    have N160 := Fr.snoc X157 N155 ga1
    have Z161 : n0 ≤ h157.size := Nat.le_trans Z156 (Keep.of_wr W157).1
    show own_Goes p e below s (own_F0 Z x0 x1 x2 n0 h0) room_1.cells room_1.slots (T157.setTop (mkF m 206 #[.val (.int x0), .val (.int x1), .val (.int x2), .unset, .unset, .unset, .unset, .unset, .unset] [(.ref a1)]))
    refine own_Goes.step (fun t k => XS.dup X157.here hx rfl (hb hby at_206) rfl rfl k) ?_
    show own_Goes p e below s (own_F0 Z x0 x1 x2 n0 h0) room_1.cells room_1.slots (T157.setTop (mkF m 207 #[.val (.int x0), .val (.int x1), .val (.int x2), .unset, .unset, .unset, .unset, .unset, .unset] [(.ref a1), (.ref a1)]))
    refine own_Goes.step (fun t k => XT.bipushV X157.here hx rfl (32 : Int32) (hb hby at_207) (by decide) k) ?_
    show own_Goes p e below s (own_F0 Z x0 x1 x2 n0 h0) room_1.cells room_1.slots (T157.setTop (mkF m 209 #[.val (.int x0), .val (.int x1), .val (.int x2), .unset, .unset, .unset, .unset, .unset, .unset] [(.int (32 : Int32)), (.ref a1), (.ref a1)]))
    refine own_Goes.step (fun t k => X157.ldcI hx hown (mvT hZ (hw _ (List.mem_of_getElem? (i := 8) rfl))) rfl (hb hby at_209) k) ?_
    show own_Goes p e below s (own_F0 Z x0 x1 x2 n0 h0) room_1.cells room_1.slots (T157.setTop (mkF m 211 #[.val (.int x0), .val (.int x1), .val (.int x2), .unset, .unset, .unset, .unset, .unset, .unset] [(.int (-2147483647 : Int32)), (.int (32 : Int32)), (.ref a1), (.ref a1)]))
    obtain ⟨u162, v162⟩ := id f158
    obtain ⟨T162, h162, X162, e162, W162, st162⟩ := own_iast X157 hx hZ e157 v162 (i := 32) rfl (by decide) (g := (mkF m 211 #[.val (.int x0), .val (.int x1), .val (.int x2), .unset, .unset, .unset, .unset, .unset, .unset] [(.int (-2147483647 : Int32)), (.int (32 : Int32)), (.ref a1), (.ref a1)])) rfl rfl (hb hby at_211)
    refine own_Goes.step st162 ?_
    have f163 := f158.set W162
    have K164 := K159.wr W162 (Or.inr Kh1)
    have N165 := Fr.snoc X162 N160 ga1
    have Z166 : n0 ≤ h162.size := Nat.le_trans Z161 (Keep.of_wr W162).1
    show own_Goes p e below s (own_F0 Z x0 x1 x2 n0 h0) room_1.cells room_1.slots (T162.setTop (mkF m 212 #[.val (.int x0), .val (.int x1), .val (.int x2), .unset, .unset, .unset, .unset, .unset, .unset] [(.ref a1)]))
    refine own_Goes.step (fun t k => XS.dup X162.here hx rfl (hb hby at_212) rfl rfl k) ?_
    show own_Goes p e below s (own_F0 Z x0 x1 x2 n0 h0) room_1.cells room_1.slots (T162.setTop (mkF m 213 #[.val (.int x0), .val (.int x1), .val (.int x2), .unset, .unset, .unset, .unset, .unset, .unset] [(.ref a1), (.ref a1)]))
    refine own_Goes.step (fun t k => XT.bipushV X162.here hx rfl (33 : Int32) (hb hby at_213) (by decide) k) ?_
    show own_Goes p e below s (own_F0 Z x0 x1 x2 n0 h0) room_1.cells room_1.slots (T162.setTop (mkF m 215 #[.val (.int x0), .val (.int x1), .val (.int x2), .unset, .unset, .unset, .unset, .unset, .unset] [(.int (33 : Int32)), (.ref a1), (.ref a1)]))
    refine own_Goes.step (fun t k => X162.ldcI hx hown (mvT hZ (hw _ (List.mem_of_getElem? (i := 9) rfl))) rfl (hb hby at_215) k) ?_
    show own_Goes p e below s (own_F0 Z x0 x1 x2 n0 h0) room_1.cells room_1.slots (T162.setTop (mkF m 217 #[.val (.int x0), .val (.int x1), .val (.int x2), .unset, .unset, .unset, .unset, .unset, .unset] [(.int (2147483645 : Int32)), (.int (33 : Int32)), (.ref a1), (.ref a1)]))
    obtain ⟨u167, v167⟩ := id f163
    obtain ⟨T167, h167, X167, e167, W167, st167⟩ := own_iast X162 hx hZ e162 v167 (i := 33) rfl (by decide) (g := (mkF m 217 #[.val (.int x0), .val (.int x1), .val (.int x2), .unset, .unset, .unset, .unset, .unset, .unset] [(.int (2147483645 : Int32)), (.int (33 : Int32)), (.ref a1), (.ref a1)])) rfl rfl (hb hby at_217)
    refine own_Goes.step st167 ?_
    have f168 := f163.set W167
    have K169 := K164.wr W167 (Or.inr Kh1)
    have N170 := Fr.snoc X167 N165 ga1
    have Z171 : n0 ≤ h167.size := Nat.le_trans Z166 (Keep.of_wr W167).1
    show own_Goes p e below s (own_F0 Z x0 x1 x2 n0 h0) room_1.cells room_1.slots (T167.setTop (mkF m 218 #[.val (.int x0), .val (.int x1), .val (.int x2), .unset, .unset, .unset, .unset, .unset, .unset] [(.ref a1)]))
    refine own_Goes.step (fun t k => XS.astoreN X167.here hx rfl (hb hby at_218) rfl rfl (l' := #[.val (.int x0), .val (.int x1), .val (.int x2), .val (.ref a1), .unset, .unset, .unset, .unset, .unset]) rfl k) ?_
    show own_Goes p e below s (own_F0 Z x0 x1 x2 n0 h0) room_1.cells room_1.slots (T167.setTop (mkF m 219 #[.val (.int x0), .val (.int x1), .val (.int x2), .val (.ref a1), .unset, .unset, .unset, .unset, .unset] []))
    refine own_Goes.step (fun t k => XS.iloadN X167.here hx rfl (hb hby at_219) rfl k) ?_
    show own_Goes p e below s (own_F0 Z x0 x1 x2 n0 h0) room_1.cells room_1.slots (T167.setTop (mkF m 220 #[.val (.int x0), .val (.int x1), .val (.int x2), .val (.ref a1), .unset, .unset, .unset, .unset, .unset] [(.int x0)]))
    refine own_Goes.step (fun t k => X167.ldcI hx hown (mvT hZ (hw _ (List.mem_of_getElem? (i := 10) rfl))) rfl (hb hby at_220) k) ?_
    show own_Goes p e below s (own_F0 Z x0 x1 x2 n0 h0) room_1.cells room_1.slots (T167.setTop (mkF m 222 #[.val (.int x0), .val (.int x1), .val (.int x2), .val (.ref a1), .unset, .unset, .unset, .unset, .unset] [(.int (1048575 : Int32)), (.int x0)]))
    refine own_Goes.step (fun t k => XS.iand X167.here hx rfl (hb hby at_222) rfl k) ?_
    show own_Goes p e below s (own_F0 Z x0 x1 x2 n0 h0) room_1.cells room_1.slots (T167.setTop (mkF m 223 #[.val (.int x0), .val (.int x1), .val (.int x2), .val (.ref a1), .unset, .unset, .unset, .unset, .unset] [(.int (x0 &&& (1048575 : Int32)))]))
    refine own_Goes.step (fun t k => XS.istore X167.here hx rfl (hb hby at_223) rfl (l' := #[.val (.int x0), .val (.int x1), .val (.int x2), .val (.ref a1), .val (.int (x0 &&& (1048575 : Int32))), .unset, .unset, .unset, .unset]) rfl k) ?_
    show own_Goes p e below s (own_F0 Z x0 x1 x2 n0 h0) room_1.cells room_1.slots (T167.setTop (mkF m 225 #[.val (.int x0), .val (.int x1), .val (.int x2), .val (.ref a1), .val (.int (x0 &&& (1048575 : Int32))), .unset, .unset, .unset, .unset] []))
    refine own_Goes.step (fun t k => XS.aloadN X167.here hx rfl (hb hby at_225) rfl rfl k) ?_
    show own_Goes p e below s (own_F0 Z x0 x1 x2 n0 h0) room_1.cells room_1.slots (T167.setTop (mkF m 226 #[.val (.int x0), .val (.int x1), .val (.int x2), .val (.ref a1), .val (.int (x0 &&& (1048575 : Int32))), .unset, .unset, .unset, .unset] [(.ref a1)]))
    refine own_Goes.step (fun t k => XS.iloadN X167.here hx rfl (hb hby at_226) rfl k) ?_
    show own_Goes p e below s (own_F0 Z x0 x1 x2 n0 h0) room_1.cells room_1.slots (T167.setTop (mkF m 227 #[.val (.int x0), .val (.int x1), .val (.int x2), .val (.ref a1), .val (.int (x0 &&& (1048575 : Int32))), .unset, .unset, .unset, .unset] [(.int x1), (.ref a1)]))
    refine own_Goes.step (fun t k => X167.ldcI hx hown (mvT hZ (hw _ (List.mem_of_getElem? (i := 11) rfl))) rfl (hb hby at_227) k) ?_
    show own_Goes p e below s (own_F0 Z x0 x1 x2 n0 h0) room_1.cells room_1.slots (T167.setTop (mkF m 229 #[.val (.int x0), .val (.int x1), .val (.int x2), .val (.ref a1), .val (.int (x0 &&& (1048575 : Int32))), .unset, .unset, .unset, .unset] [(.int (2147483647 : Int32)), (.int x1), (.ref a1)]))
    refine own_Goes.step (fun t k => XS.iand X167.here hx rfl (hb hby at_229) rfl k) ?_
    show own_Goes p e below s (own_F0 Z x0 x1 x2 n0 h0) room_1.cells room_1.slots (T167.setTop (mkF m 230 #[.val (.int x0), .val (.int x1), .val (.int x2), .val (.ref a1), .val (.int (x0 &&& (1048575 : Int32))), .unset, .unset, .unset, .unset] [(.int (x1 &&& (2147483647 : Int32))), (.ref a1)]))
    refine own_Goes.step (fun t k => XS.aloadN X167.here hx rfl (hb hby at_230) rfl rfl k) ?_
    show own_Goes p e below s (own_F0 Z x0 x1 x2 n0 h0) room_1.cells room_1.slots (T167.setTop (mkF m 231 #[.val (.int x0), .val (.int x1), .val (.int x2), .val (.ref a1), .val (.int (x0 &&& (1048575 : Int32))), .unset, .unset, .unset, .unset] [(.ref a1), (.int (x1 &&& (2147483647 : Int32))), (.ref a1)]))
    obtain ⟨u172, v172⟩ := id f168
    refine own_Goes.step (own_alen X167 hx hZ e167 v172 (z := (34 : Int32)) (by decide) (g := (mkF m 231 #[.val (.int x0), .val (.int x1), .val (.int x2), .val (.ref a1), .val (.int (x0 &&& (1048575 : Int32))), .unset, .unset, .unset, .unset] [(.ref a1), (.int (x1 &&& (2147483647 : Int32))), (.ref a1)])) rfl rfl (hb hby at_231)) ?_
    show own_Goes p e below s (own_F0 Z x0 x1 x2 n0 h0) room_1.cells room_1.slots (T167.setTop (mkF m 232 #[.val (.int x0), .val (.int x1), .val (.int x2), .val (.ref a1), .val (.int (x0 &&& (1048575 : Int32))), .unset, .unset, .unset, .unset] [(.int (34 : Int32)), (.int (x1 &&& (2147483647 : Int32))), (.ref a1)]))
    refine own_Goes.step (fun t k => iremM X167 hx rfl (hb hby at_232) rfl (by decide) k) ?_
    show own_Goes p e below s (own_F0 Z x0 x1 x2 n0 h0) room_1.cells room_1.slots (T167.setTop (mkF m 233 #[.val (.int x0), .val (.int x1), .val (.int x2), .val (.ref a1), .val (.int (x0 &&& (1048575 : Int32))), .unset, .unset, .unset, .unset] [(.int ((x1 &&& (2147483647 : Int32)) % (34 : Int32))), (.ref a1)]))
    obtain ⟨u173, v173⟩ := id f168
    obtain ⟨z, hz173⟩ : ∃ z : Int32, u173 (own_ix x1) = z := ⟨_, rfl⟩
    refine own_Goes.step (own_iald X167 hx hZ e167 v173 (i := own_ix x1) (own_ixe x1) (own_ixl x1) (v := .int z) (congrArg Value.int hz173) (g := (mkF m 233 #[.val (.int x0), .val (.int x1), .val (.int x2), .val (.ref a1), .val (.int (x0 &&& (1048575 : Int32))), .unset, .unset, .unset, .unset] [(.int ((x1 &&& (2147483647 : Int32)) % (34 : Int32))), (.ref a1)])) rfl rfl (hb hby at_233)) ?_
    show own_Goes p e below s (own_F0 Z x0 x1 x2 n0 h0) room_1.cells room_1.slots (T167.setTop (mkF m 234 #[.val (.int x0), .val (.int x1), .val (.int x2), .val (.ref a1), .val (.int (x0 &&& (1048575 : Int32))), .unset, .unset, .unset, .unset] [(.int z)]))
    refine own_Goes.step (fun t k => XS.iloadN X167.here hx rfl (hb hby at_234) rfl k) ?_
    show own_Goes p e below s (own_F0 Z x0 x1 x2 n0 h0) room_1.cells room_1.slots (T167.setTop (mkF m 235 #[.val (.int x0), .val (.int x1), .val (.int x2), .val (.ref a1), .val (.int (x0 &&& (1048575 : Int32))), .unset, .unset, .unset, .unset] [(.int x2), (.int z)]))
    refine own_Goes.step (fun t k => XT.iconstV X167.here hx rfl (3 : Int32) (hb hby at_235) (by decide) k) ?_
    show own_Goes p e below s (own_F0 Z x0 x1 x2 n0 h0) room_1.cells room_1.slots (T167.setTop (mkF m 236 #[.val (.int x0), .val (.int x1), .val (.int x2), .val (.ref a1), .val (.int (x0 &&& (1048575 : Int32))), .unset, .unset, .unset, .unset] [(.int (3 : Int32)), (.int x2), (.int z)]))
    refine own_Goes.step (fun t k => XS.iand X167.here hx rfl (hb hby at_236) rfl k) ?_
    show own_Goes p e below s (own_F0 Z x0 x1 x2 n0 h0) room_1.cells room_1.slots (T167.setTop (mkF m 237 #[.val (.int x0), .val (.int x1), .val (.int x2), .val (.ref a1), .val (.int (x0 &&& (1048575 : Int32))), .unset, .unset, .unset, .unset] [(.int (x2 &&& (3 : Int32))), (.int z)]))
    refine own_Goes.step (fun t k => XT.iconstV X167.here hx rfl (1 : Int32) (hb hby at_237) (by decide) k) ?_
    show own_Goes p e below s (own_F0 Z x0 x1 x2 n0 h0) room_1.cells room_1.slots (T167.setTop (mkF m 238 #[.val (.int x0), .val (.int x1), .val (.int x2), .val (.ref a1), .val (.int (x0 &&& (1048575 : Int32))), .unset, .unset, .unset, .unset] [(.int (1 : Int32)), (.int (x2 &&& (3 : Int32))), (.int z)]))
    refine own_Goes.step (fun t k => XS.isub X167.here hx rfl (hb hby at_238) rfl k) ?_
    show own_Goes p e below s (own_F0 Z x0 x1 x2 n0 h0) room_1.cells room_1.slots (T167.setTop (mkF m 239 #[.val (.int x0), .val (.int x1), .val (.int x2), .val (.ref a1), .val (.int (x0 &&& (1048575 : Int32))), .unset, .unset, .unset, .unset] [(.int ((x2 &&& (3 : Int32)) - (1 : Int32))), (.int z)]))
    refine own_Goes.step (fun t k => XS.iadd X167.here hx rfl (hb hby at_239) rfl k) ?_
    show own_Goes p e below s (own_F0 Z x0 x1 x2 n0 h0) room_1.cells room_1.slots (T167.setTop (mkF m 240 #[.val (.int x0), .val (.int x1), .val (.int x2), .val (.ref a1), .val (.int (x0 &&& (1048575 : Int32))), .unset, .unset, .unset, .unset] [(.int (z + ((x2 &&& (3 : Int32)) - (1 : Int32))))]))
    refine own_Goes.step (fun t k => XS.istore X167.here hx rfl (hb hby at_240) rfl (l' := #[.val (.int x0), .val (.int x1), .val (.int x2), .val (.ref a1), .val (.int (x0 &&& (1048575 : Int32))), .val (.int (z + ((x2 &&& (3 : Int32)) - (1 : Int32)))), .unset, .unset, .unset]) rfl k) ?_
    show own_Goes p e below s (own_F0 Z x0 x1 x2 n0 h0) room_1.cells room_1.slots (T167.setTop (mkF m 242 #[.val (.int x0), .val (.int x1), .val (.int x2), .val (.ref a1), .val (.int (x0 &&& (1048575 : Int32))), .val (.int (z + ((x2 &&& (3 : Int32)) - (1 : Int32)))), .unset, .unset, .unset] []))
    refine own_Goes.step (fun t k => XS.iloadN X167.here hx rfl (hb hby at_242) rfl k) ?_
    show own_Goes p e below s (own_F0 Z x0 x1 x2 n0 h0) room_1.cells room_1.slots (T167.setTop (mkF m 243 #[.val (.int x0), .val (.int x1), .val (.int x2), .val (.ref a1), .val (.int (x0 &&& (1048575 : Int32))), .val (.int (z + ((x2 &&& (3 : Int32)) - (1 : Int32)))), .unset, .unset, .unset] [(.int x0)]))
    obtain ⟨w174, T174, L174, q174, Y174, st174⟩ := own_stat X167 hx hZ e167 hown (hw _ (List.mem_of_getElem? (i := 12) rfl)) (hw _ (List.mem_of_getElem? (i := 13) rfl)) (hw _ (List.mem_of_getElem? (i := 14) rfl)) (hw _ (List.mem_of_getElem? (i := 15) rfl)) (by decide) (own_m1 l Z a0 hw [] x0 h167 ) (by decide) (W := 0) (by decide) (by decide) (by decide) (g := (mkF m 243 #[.val (.int x0), .val (.int x1), .val (.int x2), .val (.ref a1), .val (.int (x0 &&& (1048575 : Int32))), .val (.int (z + ((x2 &&& (3 : Int32)) - (1 : Int32)))), .unset, .unset, .unset] [(.int x0)])) rfl (by rw [hml]; rfl) (argsL := [(.int x0)]) (rest := []) (lenOf pd_1 rfl) rfl (by show 2 * 0 + _ ≤ _; exact Nat.le_of_eq rfl) (hb hby at_243)
    obtain ⟨e174, X174⟩ := own_clean q174 Y174 rfl rfl
    obtain ⟨rfl, -, -⟩ := q174
    refine own_Goes.step st174 ?_
    show own_Goes p e below s (own_F0 Z x0 x1 x2 n0 h0) room_1.cells room_1.slots (T174.setTop (mkF m 246 #[.val (.int x0), .val (.int x1), .val (.int x2), .val (.ref a1), .val (.int (x0 &&& (1048575 : Int32))), .val (.int (z + ((x2 &&& (3 : Int32)) - (1 : Int32)))), .unset, .unset, .unset] [(.int (own_f1 x0))]))
    refine own_Goes.step (fun t k => XS.iloadN X174.here hx rfl (hb hby at_246) rfl k) ?_
    show own_Goes p e below s (own_F0 Z x0 x1 x2 n0 h0) room_1.cells room_1.slots (T174.setTop (mkF m 247 #[.val (.int x0), .val (.int x1), .val (.int x2), .val (.ref a1), .val (.int (x0 &&& (1048575 : Int32))), .val (.int (z + ((x2 &&& (3 : Int32)) - (1 : Int32)))), .unset, .unset, .unset] [(.int x0), (.int (own_f1 x0))]))
    obtain ⟨w175, T175, L175, q175, Y175, st175⟩ := own_stat X174 hx hZ e174 hown (hw _ (List.mem_of_getElem? (i := 19) rfl)) (hw _ (List.mem_of_getElem? (i := 20) rfl)) (hw _ (List.mem_of_getElem? (i := 21) rfl)) (hw _ (List.mem_of_getElem? (i := 22) rfl)) (by decide) (own_m2 l Z a0 hw [] x0 h167 ) (by decide) (W := 1) (by decide) (by decide) (by decide) (g := (mkF m 247 #[.val (.int x0), .val (.int x1), .val (.int x2), .val (.ref a1), .val (.int (x0 &&& (1048575 : Int32))), .val (.int (z + ((x2 &&& (3 : Int32)) - (1 : Int32)))), .unset, .unset, .unset] [(.int x0), (.int (own_f1 x0))])) rfl (by rw [hml]; rfl) (argsL := [(.int x0)]) (rest := [(.int (own_f1 x0))]) (lenOf pd_2 rfl) rfl (by show 2 * 0 + _ ≤ _; exact Nat.le_of_eq rfl) (hb hby at_247)
    obtain ⟨e175, X175⟩ := own_clean q175 Y175 rfl rfl
    obtain ⟨rfl, -, -⟩ := q175
    refine own_Goes.step st175 ?_
    show own_Goes p e below s (own_F0 Z x0 x1 x2 n0 h0) room_1.cells room_1.slots (T175.setTop (mkF m 250 #[.val (.int x0), .val (.int x1), .val (.int x2), .val (.ref a1), .val (.int (x0 &&& (1048575 : Int32))), .val (.int (z + ((x2 &&& (3 : Int32)) - (1 : Int32)))), .unset, .unset, .unset] [(.int (own_f2 x0)), (.int (own_f1 x0))]))
    have J188 : own_Goes p e below s (own_F0 Z x0 x1 x2 n0 h0) room_1.cells room_1.slots (T175.setTop (mkF m 258 #[.val (.int x0), .val (.int x1), .val (.int x2), .val (.ref a1), .val (.int (x0 &&& (1048575 : Int32))), .val (.int (z + ((x2 &&& (3 : Int32)) - (1 : Int32)))), .unset, .unset, .unset] [(.int (own_f0_1 x0 x1 x2 z))])) := by
      refine own_Goes.step (fun t k => XS.istore X175.here hx rfl (hb hby at_258) rfl (l' := #[.val (.int x0), .val (.int x1), .val (.int x2), .val (.ref a1), .val (.int (x0 &&& (1048575 : Int32))), .val (.int (z + ((x2 &&& (3 : Int32)) - (1 : Int32)))), .val (.int (own_f0_1 x0 x1 x2 z)), .unset, .unset]) rfl k) ?_
      show own_Goes p e below s (own_F0 Z x0 x1 x2 n0 h0) room_1.cells room_1.slots (T175.setTop (mkF m 260 #[.val (.int x0), .val (.int x1), .val (.int x2), .val (.ref a1), .val (.int (x0 &&& (1048575 : Int32))), .val (.int (z + ((x2 &&& (3 : Int32)) - (1 : Int32)))), .val (.int (own_f0_1 x0 x1 x2 z)), .unset, .unset] []))
      refine own_Goes.step (fun t k => XS.iload X175.here hx rfl (hb hby at_260) rfl k) ?_
      show own_Goes p e below s (own_F0 Z x0 x1 x2 n0 h0) room_1.cells room_1.slots (T175.setTop (mkF m 262 #[.val (.int x0), .val (.int x1), .val (.int x2), .val (.ref a1), .val (.int (x0 &&& (1048575 : Int32))), .val (.int (z + ((x2 &&& (3 : Int32)) - (1 : Int32)))), .val (.int (own_f0_1 x0 x1 x2 z)), .unset, .unset] [(.int (x0 &&& (1048575 : Int32)))]))
      obtain ⟨w177, T177, L177, q177, Y177, st177⟩ := own_stat X175 hx hZ e175 hown (hw _ (List.mem_of_getElem? (i := 12) rfl)) (hw _ (List.mem_of_getElem? (i := 13) rfl)) (hw _ (List.mem_of_getElem? (i := 14) rfl)) (hw _ (List.mem_of_getElem? (i := 15) rfl)) (by decide) (own_m1 l Z a0 hw [] (x0 &&& (1048575 : Int32)) h167 ) (by decide) (W := 0) (by decide) (by decide) (by decide) (g := (mkF m 262 #[.val (.int x0), .val (.int x1), .val (.int x2), .val (.ref a1), .val (.int (x0 &&& (1048575 : Int32))), .val (.int (z + ((x2 &&& (3 : Int32)) - (1 : Int32)))), .val (.int (own_f0_1 x0 x1 x2 z)), .unset, .unset] [(.int (x0 &&& (1048575 : Int32)))])) rfl (by rw [hml]; rfl) (argsL := [(.int (x0 &&& (1048575 : Int32)))]) (rest := []) (lenOf pd_1 rfl) rfl (by show 2 * 0 + _ ≤ _; exact Nat.le_of_eq rfl) (hb hby at_262)
      obtain ⟨e177, X177⟩ := own_clean q177 Y177 rfl rfl
      obtain ⟨rfl, -, -⟩ := q177
      refine own_Goes.step st177 ?_
      show own_Goes p e below s (own_F0 Z x0 x1 x2 n0 h0) room_1.cells room_1.slots (T177.setTop (mkF m 265 #[.val (.int x0), .val (.int x1), .val (.int x2), .val (.ref a1), .val (.int (x0 &&& (1048575 : Int32))), .val (.int (z + ((x2 &&& (3 : Int32)) - (1 : Int32)))), .val (.int (own_f0_1 x0 x1 x2 z)), .unset, .unset] [(.int (own_f1 (x0 &&& (1048575 : Int32))))]))
      refine own_Goes.step (fun t k => XS.iload X177.here hx rfl (hb hby at_265) rfl k) ?_
      show own_Goes p e below s (own_F0 Z x0 x1 x2 n0 h0) room_1.cells room_1.slots (T177.setTop (mkF m 267 #[.val (.int x0), .val (.int x1), .val (.int x2), .val (.ref a1), .val (.int (x0 &&& (1048575 : Int32))), .val (.int (z + ((x2 &&& (3 : Int32)) - (1 : Int32)))), .val (.int (own_f0_1 x0 x1 x2 z)), .unset, .unset] [(.int (x0 &&& (1048575 : Int32))), (.int (own_f1 (x0 &&& (1048575 : Int32))))]))
      obtain ⟨w178, T178, L178, q178, Y178, st178⟩ := own_stat X177 hx hZ e177 hown (hw _ (List.mem_of_getElem? (i := 19) rfl)) (hw _ (List.mem_of_getElem? (i := 20) rfl)) (hw _ (List.mem_of_getElem? (i := 21) rfl)) (hw _ (List.mem_of_getElem? (i := 22) rfl)) (by decide) (own_m2 l Z a0 hw [] (x0 &&& (1048575 : Int32)) h167 ) (by decide) (W := 1) (by decide) (by decide) (by decide) (g := (mkF m 267 #[.val (.int x0), .val (.int x1), .val (.int x2), .val (.ref a1), .val (.int (x0 &&& (1048575 : Int32))), .val (.int (z + ((x2 &&& (3 : Int32)) - (1 : Int32)))), .val (.int (own_f0_1 x0 x1 x2 z)), .unset, .unset] [(.int (x0 &&& (1048575 : Int32))), (.int (own_f1 (x0 &&& (1048575 : Int32))))])) rfl (by rw [hml]; rfl) (argsL := [(.int (x0 &&& (1048575 : Int32)))]) (rest := [(.int (own_f1 (x0 &&& (1048575 : Int32))))]) (lenOf pd_2 rfl) rfl (by show 2 * 0 + _ ≤ _; exact Nat.le_of_eq rfl) (hb hby at_267)
      obtain ⟨e178, X178⟩ := own_clean q178 Y178 rfl rfl
      obtain ⟨rfl, -, -⟩ := q178
      refine own_Goes.step st178 ?_
      show own_Goes p e below s (own_F0 Z x0 x1 x2 n0 h0) room_1.cells room_1.slots (T178.setTop (mkF m 270 #[.val (.int x0), .val (.int x1), .val (.int x2), .val (.ref a1), .val (.int (x0 &&& (1048575 : Int32))), .val (.int (z + ((x2 &&& (3 : Int32)) - (1 : Int32)))), .val (.int (own_f0_1 x0 x1 x2 z)), .unset, .unset] [(.int (own_f2 (x0 &&& (1048575 : Int32)))), (.int (own_f1 (x0 &&& (1048575 : Int32))))]))
      have J187 : own_Goes p e below s (own_F0 Z x0 x1 x2 n0 h0) room_1.cells room_1.slots (T178.setTop (mkF m 278 #[.val (.int x0), .val (.int x1), .val (.int x2), .val (.ref a1), .val (.int (x0 &&& (1048575 : Int32))), .val (.int (z + ((x2 &&& (3 : Int32)) - (1 : Int32)))), .val (.int (own_f0_1 x0 x1 x2 z)), .unset, .unset] [(.int (own_f0_2 x0 x1 x2 z))])) := by
        refine own_Goes.step (fun t k => XS.istore X178.here hx rfl (hb hby at_278) rfl (l' := #[.val (.int x0), .val (.int x1), .val (.int x2), .val (.ref a1), .val (.int (x0 &&& (1048575 : Int32))), .val (.int (z + ((x2 &&& (3 : Int32)) - (1 : Int32)))), .val (.int (own_f0_1 x0 x1 x2 z)), .val (.int (own_f0_2 x0 x1 x2 z)), .unset]) rfl k) ?_
        show own_Goes p e below s (own_F0 Z x0 x1 x2 n0 h0) room_1.cells room_1.slots (T178.setTop (mkF m 280 #[.val (.int x0), .val (.int x1), .val (.int x2), .val (.ref a1), .val (.int (x0 &&& (1048575 : Int32))), .val (.int (z + ((x2 &&& (3 : Int32)) - (1 : Int32)))), .val (.int (own_f0_1 x0 x1 x2 z)), .val (.int (own_f0_2 x0 x1 x2 z)), .unset] []))
        refine own_Goes.step (fun t k => XS.iload X178.here hx rfl (hb hby at_280) rfl k) ?_
        show own_Goes p e below s (own_F0 Z x0 x1 x2 n0 h0) room_1.cells room_1.slots (T178.setTop (mkF m 282 #[.val (.int x0), .val (.int x1), .val (.int x2), .val (.ref a1), .val (.int (x0 &&& (1048575 : Int32))), .val (.int (z + ((x2 &&& (3 : Int32)) - (1 : Int32)))), .val (.int (own_f0_1 x0 x1 x2 z)), .val (.int (own_f0_2 x0 x1 x2 z)), .unset] [(.int (z + ((x2 &&& (3 : Int32)) - (1 : Int32))))]))
        obtain ⟨w180, T180, L180, q180, Y180, st180⟩ := own_stat X178 hx hZ e178 hown (hw _ (List.mem_of_getElem? (i := 12) rfl)) (hw _ (List.mem_of_getElem? (i := 13) rfl)) (hw _ (List.mem_of_getElem? (i := 14) rfl)) (hw _ (List.mem_of_getElem? (i := 15) rfl)) (by decide) (own_m1 l Z a0 hw [] (z + ((x2 &&& (3 : Int32)) - (1 : Int32))) h167 ) (by decide) (W := 0) (by decide) (by decide) (by decide) (g := (mkF m 282 #[.val (.int x0), .val (.int x1), .val (.int x2), .val (.ref a1), .val (.int (x0 &&& (1048575 : Int32))), .val (.int (z + ((x2 &&& (3 : Int32)) - (1 : Int32)))), .val (.int (own_f0_1 x0 x1 x2 z)), .val (.int (own_f0_2 x0 x1 x2 z)), .unset] [(.int (z + ((x2 &&& (3 : Int32)) - (1 : Int32))))])) rfl (by rw [hml]; rfl) (argsL := [(.int (z + ((x2 &&& (3 : Int32)) - (1 : Int32))))]) (rest := []) (lenOf pd_1 rfl) rfl (by show 2 * 0 + _ ≤ _; exact Nat.le_of_eq rfl) (hb hby at_282)
        obtain ⟨e180, X180⟩ := own_clean q180 Y180 rfl rfl
        obtain ⟨rfl, -, -⟩ := q180
        refine own_Goes.step st180 ?_
        show own_Goes p e below s (own_F0 Z x0 x1 x2 n0 h0) room_1.cells room_1.slots (T180.setTop (mkF m 285 #[.val (.int x0), .val (.int x1), .val (.int x2), .val (.ref a1), .val (.int (x0 &&& (1048575 : Int32))), .val (.int (z + ((x2 &&& (3 : Int32)) - (1 : Int32)))), .val (.int (own_f0_1 x0 x1 x2 z)), .val (.int (own_f0_2 x0 x1 x2 z)), .unset] [(.int (own_f1 (z + ((x2 &&& (3 : Int32)) - (1 : Int32)))))]))
        refine own_Goes.step (fun t k => XS.iload X180.here hx rfl (hb hby at_285) rfl k) ?_
        show own_Goes p e below s (own_F0 Z x0 x1 x2 n0 h0) room_1.cells room_1.slots (T180.setTop (mkF m 287 #[.val (.int x0), .val (.int x1), .val (.int x2), .val (.ref a1), .val (.int (x0 &&& (1048575 : Int32))), .val (.int (z + ((x2 &&& (3 : Int32)) - (1 : Int32)))), .val (.int (own_f0_1 x0 x1 x2 z)), .val (.int (own_f0_2 x0 x1 x2 z)), .unset] [(.int (z + ((x2 &&& (3 : Int32)) - (1 : Int32)))), (.int (own_f1 (z + ((x2 &&& (3 : Int32)) - (1 : Int32)))))]))
        obtain ⟨w181, T181, L181, q181, Y181, st181⟩ := own_stat X180 hx hZ e180 hown (hw _ (List.mem_of_getElem? (i := 19) rfl)) (hw _ (List.mem_of_getElem? (i := 20) rfl)) (hw _ (List.mem_of_getElem? (i := 21) rfl)) (hw _ (List.mem_of_getElem? (i := 22) rfl)) (by decide) (own_m2 l Z a0 hw [] (z + ((x2 &&& (3 : Int32)) - (1 : Int32))) h167 ) (by decide) (W := 1) (by decide) (by decide) (by decide) (g := (mkF m 287 #[.val (.int x0), .val (.int x1), .val (.int x2), .val (.ref a1), .val (.int (x0 &&& (1048575 : Int32))), .val (.int (z + ((x2 &&& (3 : Int32)) - (1 : Int32)))), .val (.int (own_f0_1 x0 x1 x2 z)), .val (.int (own_f0_2 x0 x1 x2 z)), .unset] [(.int (z + ((x2 &&& (3 : Int32)) - (1 : Int32)))), (.int (own_f1 (z + ((x2 &&& (3 : Int32)) - (1 : Int32)))))])) rfl (by rw [hml]; rfl) (argsL := [(.int (z + ((x2 &&& (3 : Int32)) - (1 : Int32))))]) (rest := [(.int (own_f1 (z + ((x2 &&& (3 : Int32)) - (1 : Int32)))))]) (lenOf pd_2 rfl) rfl (by show 2 * 0 + _ ≤ _; exact Nat.le_of_eq rfl) (hb hby at_287)
        obtain ⟨e181, X181⟩ := own_clean q181 Y181 rfl rfl
        obtain ⟨rfl, -, -⟩ := q181
        refine own_Goes.step st181 ?_
        show own_Goes p e below s (own_F0 Z x0 x1 x2 n0 h0) room_1.cells room_1.slots (T181.setTop (mkF m 290 #[.val (.int x0), .val (.int x1), .val (.int x2), .val (.ref a1), .val (.int (x0 &&& (1048575 : Int32))), .val (.int (z + ((x2 &&& (3 : Int32)) - (1 : Int32)))), .val (.int (own_f0_1 x0 x1 x2 z)), .val (.int (own_f0_2 x0 x1 x2 z)), .unset] [(.int (own_f2 (z + ((x2 &&& (3 : Int32)) - (1 : Int32))))), (.int (own_f1 (z + ((x2 &&& (3 : Int32)) - (1 : Int32)))))]))
        have J186 : own_Goes p e below s (own_F0 Z x0 x1 x2 n0 h0) room_1.cells room_1.slots (T181.setTop (mkF m 298 #[.val (.int x0), .val (.int x1), .val (.int x2), .val (.ref a1), .val (.int (x0 &&& (1048575 : Int32))), .val (.int (z + ((x2 &&& (3 : Int32)) - (1 : Int32)))), .val (.int (own_f0_1 x0 x1 x2 z)), .val (.int (own_f0_2 x0 x1 x2 z)), .unset] [(.int (own_f0_3 x0 x1 x2 z))])) := by
          refine own_Goes.step (fun t k => XS.istore X181.here hx rfl (hb hby at_298) rfl (l' := #[.val (.int x0), .val (.int x1), .val (.int x2), .val (.ref a1), .val (.int (x0 &&& (1048575 : Int32))), .val (.int (z + ((x2 &&& (3 : Int32)) - (1 : Int32)))), .val (.int (own_f0_1 x0 x1 x2 z)), .val (.int (own_f0_2 x0 x1 x2 z)), .val (.int (own_f0_3 x0 x1 x2 z))]) rfl k) ?_
          show own_Goes p e below s (own_F0 Z x0 x1 x2 n0 h0) room_1.cells room_1.slots (T181.setTop (mkF m 300 #[.val (.int x0), .val (.int x1), .val (.int x2), .val (.ref a1), .val (.int (x0 &&& (1048575 : Int32))), .val (.int (z + ((x2 &&& (3 : Int32)) - (1 : Int32)))), .val (.int (own_f0_1 x0 x1 x2 z)), .val (.int (own_f0_2 x0 x1 x2 z)), .val (.int (own_f0_3 x0 x1 x2 z))] []))
          refine own_Goes.step (fun t k => XS.iload X181.here hx rfl (hb hby at_300) rfl k) ?_
          show own_Goes p e below s (own_F0 Z x0 x1 x2 n0 h0) room_1.cells room_1.slots (T181.setTop (mkF m 302 #[.val (.int x0), .val (.int x1), .val (.int x2), .val (.ref a1), .val (.int (x0 &&& (1048575 : Int32))), .val (.int (z + ((x2 &&& (3 : Int32)) - (1 : Int32)))), .val (.int (own_f0_1 x0 x1 x2 z)), .val (.int (own_f0_2 x0 x1 x2 z)), .val (.int (own_f0_3 x0 x1 x2 z))] [(.int (own_f0_1 x0 x1 x2 z))]))
          by_cases hc183 : (own_f0_1 x0 x1 x2 z) = (0 : Int32)
          · refine own_Goes.step (fun t k => XS.ifYes X181.here hx rfl (pc0 := 302) (pc' := 319) rfl (hb hby at_302) rfl (XT.i0_eq_t hc183) (by decide) (by decide) k) ?_
            show own_Goes p e below s (own_F0 Z x0 x1 x2 n0 h0) room_1.cells room_1.slots (T181.setTop (mkF m 319 #[.val (.int x0), .val (.int x1), .val (.int x2), .val (.ref a1), .val (.int (x0 &&& (1048575 : Int32))), .val (.int (z + ((x2 &&& (3 : Int32)) - (1 : Int32)))), .val (.int (own_f0_1 x0 x1 x2 z)), .val (.int (own_f0_2 x0 x1 x2 z)), .val (.int (own_f0_3 x0 x1 x2 z))] []))
            refine own_Goes.step (fun t k => XT.iconstV X181.here hx rfl (0 : Int32) (hb hby at_319) (by decide) k) ?_
            show own_Goes p e below s (own_F0 Z x0 x1 x2 n0 h0) room_1.cells room_1.slots (T181.setTop (mkF m 320 #[.val (.int x0), .val (.int x1), .val (.int x2), .val (.ref a1), .val (.int (x0 &&& (1048575 : Int32))), .val (.int (z + ((x2 &&& (3 : Int32)) - (1 : Int32)))), .val (.int (own_f0_1 x0 x1 x2 z)), .val (.int (own_f0_2 x0 x1 x2 z)), .val (.int (own_f0_3 x0 x1 x2 z))] [(.int (0 : Int32))]))
            exact own_endN X181 hx Bd.notSynchronized (t := .boolean) Bd.returns (by simp) (hb hby at_320) ⟨(congrArg (fun z => some (Value.int z)) ((show (0 : Int32) = own_f0 x0 x1 x2 z from by simp only [own_f0, if_pos hc183]).trans (own_law x0 x1 x2 z))), N170⟩ (by decide) (by decide)
          · refine own_Goes.step (fun t k => XS.ifNo X181.here hx rfl (hb hby at_302) rfl (XT.i0_eq_f hc183) k) ?_
            show own_Goes p e below s (own_F0 Z x0 x1 x2 n0 h0) room_1.cells room_1.slots (T181.setTop (mkF m 305 #[.val (.int x0), .val (.int x1), .val (.int x2), .val (.ref a1), .val (.int (x0 &&& (1048575 : Int32))), .val (.int (z + ((x2 &&& (3 : Int32)) - (1 : Int32)))), .val (.int (own_f0_1 x0 x1 x2 z)), .val (.int (own_f0_2 x0 x1 x2 z)), .val (.int (own_f0_3 x0 x1 x2 z))] []))
            refine own_Goes.step (fun t k => XS.iload X181.here hx rfl (hb hby at_305) rfl k) ?_
            show own_Goes p e below s (own_F0 Z x0 x1 x2 n0 h0) room_1.cells room_1.slots (T181.setTop (mkF m 307 #[.val (.int x0), .val (.int x1), .val (.int x2), .val (.ref a1), .val (.int (x0 &&& (1048575 : Int32))), .val (.int (z + ((x2 &&& (3 : Int32)) - (1 : Int32)))), .val (.int (own_f0_1 x0 x1 x2 z)), .val (.int (own_f0_2 x0 x1 x2 z)), .val (.int (own_f0_3 x0 x1 x2 z))] [(.int (own_f0_2 x0 x1 x2 z))]))
            by_cases hc184 : (own_f0_2 x0 x1 x2 z) = (0 : Int32)
            · refine own_Goes.step (fun t k => XS.ifYes X181.here hx rfl (pc0 := 307) (pc' := 319) rfl (hb hby at_307) rfl (XT.i0_eq_t hc184) (by decide) (by decide) k) ?_
              show own_Goes p e below s (own_F0 Z x0 x1 x2 n0 h0) room_1.cells room_1.slots (T181.setTop (mkF m 319 #[.val (.int x0), .val (.int x1), .val (.int x2), .val (.ref a1), .val (.int (x0 &&& (1048575 : Int32))), .val (.int (z + ((x2 &&& (3 : Int32)) - (1 : Int32)))), .val (.int (own_f0_1 x0 x1 x2 z)), .val (.int (own_f0_2 x0 x1 x2 z)), .val (.int (own_f0_3 x0 x1 x2 z))] []))
              refine own_Goes.step (fun t k => XT.iconstV X181.here hx rfl (0 : Int32) (hb hby at_319) (by decide) k) ?_
              show own_Goes p e below s (own_F0 Z x0 x1 x2 n0 h0) room_1.cells room_1.slots (T181.setTop (mkF m 320 #[.val (.int x0), .val (.int x1), .val (.int x2), .val (.ref a1), .val (.int (x0 &&& (1048575 : Int32))), .val (.int (z + ((x2 &&& (3 : Int32)) - (1 : Int32)))), .val (.int (own_f0_1 x0 x1 x2 z)), .val (.int (own_f0_2 x0 x1 x2 z)), .val (.int (own_f0_3 x0 x1 x2 z))] [(.int (0 : Int32))]))
              exact own_endN X181 hx Bd.notSynchronized (t := .boolean) Bd.returns (by simp) (hb hby at_320) ⟨(congrArg (fun z => some (Value.int z)) ((show (0 : Int32) = own_f0 x0 x1 x2 z from by simp only [own_f0, if_neg hc183, if_pos hc184]).trans (own_law x0 x1 x2 z))), N170⟩ (by decide) (by decide)
            · refine own_Goes.step (fun t k => XS.ifNo X181.here hx rfl (hb hby at_307) rfl (XT.i0_eq_f hc184) k) ?_
              show own_Goes p e below s (own_F0 Z x0 x1 x2 n0 h0) room_1.cells room_1.slots (T181.setTop (mkF m 310 #[.val (.int x0), .val (.int x1), .val (.int x2), .val (.ref a1), .val (.int (x0 &&& (1048575 : Int32))), .val (.int (z + ((x2 &&& (3 : Int32)) - (1 : Int32)))), .val (.int (own_f0_1 x0 x1 x2 z)), .val (.int (own_f0_2 x0 x1 x2 z)), .val (.int (own_f0_3 x0 x1 x2 z))] []))
              refine own_Goes.step (fun t k => XS.iload X181.here hx rfl (hb hby at_310) rfl k) ?_
              show own_Goes p e below s (own_F0 Z x0 x1 x2 n0 h0) room_1.cells room_1.slots (T181.setTop (mkF m 312 #[.val (.int x0), .val (.int x1), .val (.int x2), .val (.ref a1), .val (.int (x0 &&& (1048575 : Int32))), .val (.int (z + ((x2 &&& (3 : Int32)) - (1 : Int32)))), .val (.int (own_f0_1 x0 x1 x2 z)), .val (.int (own_f0_2 x0 x1 x2 z)), .val (.int (own_f0_3 x0 x1 x2 z))] [(.int (own_f0_3 x0 x1 x2 z))]))
              by_cases hc185 : (own_f0_3 x0 x1 x2 z) = (0 : Int32)
              · refine own_Goes.step (fun t k => XS.ifYes X181.here hx rfl (pc0 := 312) (pc' := 319) rfl (hb hby at_312) rfl (XT.i0_eq_t hc185) (by decide) (by decide) k) ?_
                show own_Goes p e below s (own_F0 Z x0 x1 x2 n0 h0) room_1.cells room_1.slots (T181.setTop (mkF m 319 #[.val (.int x0), .val (.int x1), .val (.int x2), .val (.ref a1), .val (.int (x0 &&& (1048575 : Int32))), .val (.int (z + ((x2 &&& (3 : Int32)) - (1 : Int32)))), .val (.int (own_f0_1 x0 x1 x2 z)), .val (.int (own_f0_2 x0 x1 x2 z)), .val (.int (own_f0_3 x0 x1 x2 z))] []))
                refine own_Goes.step (fun t k => XT.iconstV X181.here hx rfl (0 : Int32) (hb hby at_319) (by decide) k) ?_
                show own_Goes p e below s (own_F0 Z x0 x1 x2 n0 h0) room_1.cells room_1.slots (T181.setTop (mkF m 320 #[.val (.int x0), .val (.int x1), .val (.int x2), .val (.ref a1), .val (.int (x0 &&& (1048575 : Int32))), .val (.int (z + ((x2 &&& (3 : Int32)) - (1 : Int32)))), .val (.int (own_f0_1 x0 x1 x2 z)), .val (.int (own_f0_2 x0 x1 x2 z)), .val (.int (own_f0_3 x0 x1 x2 z))] [(.int (0 : Int32))]))
                exact own_endN X181 hx Bd.notSynchronized (t := .boolean) Bd.returns (by simp) (hb hby at_320) ⟨(congrArg (fun z => some (Value.int z)) ((show (0 : Int32) = own_f0 x0 x1 x2 z from by simp only [own_f0, if_neg hc183, if_neg hc184, if_pos hc185]).trans (own_law x0 x1 x2 z))), N170⟩ (by decide) (by decide)
              · refine own_Goes.step (fun t k => XS.ifNo X181.here hx rfl (hb hby at_312) rfl (XT.i0_eq_f hc185) k) ?_
                show own_Goes p e below s (own_F0 Z x0 x1 x2 n0 h0) room_1.cells room_1.slots (T181.setTop (mkF m 315 #[.val (.int x0), .val (.int x1), .val (.int x2), .val (.ref a1), .val (.int (x0 &&& (1048575 : Int32))), .val (.int (z + ((x2 &&& (3 : Int32)) - (1 : Int32)))), .val (.int (own_f0_1 x0 x1 x2 z)), .val (.int (own_f0_2 x0 x1 x2 z)), .val (.int (own_f0_3 x0 x1 x2 z))] []))
                refine own_Goes.step (fun t k => XT.iconstV X181.here hx rfl (1 : Int32) (hb hby at_315) (by decide) k) ?_
                show own_Goes p e below s (own_F0 Z x0 x1 x2 n0 h0) room_1.cells room_1.slots (T181.setTop (mkF m 316 #[.val (.int x0), .val (.int x1), .val (.int x2), .val (.ref a1), .val (.int (x0 &&& (1048575 : Int32))), .val (.int (z + ((x2 &&& (3 : Int32)) - (1 : Int32)))), .val (.int (own_f0_1 x0 x1 x2 z)), .val (.int (own_f0_2 x0 x1 x2 z)), .val (.int (own_f0_3 x0 x1 x2 z))] [(.int (1 : Int32))]))
                refine own_Goes.step (fun t k => XS.goto X181.here hx rfl (pc0 := 316) (pc' := 320) rfl (hb hby at_316) (by decide) (by decide) k) ?_
                show own_Goes p e below s (own_F0 Z x0 x1 x2 n0 h0) room_1.cells room_1.slots (T181.setTop (mkF m 320 #[.val (.int x0), .val (.int x1), .val (.int x2), .val (.ref a1), .val (.int (x0 &&& (1048575 : Int32))), .val (.int (z + ((x2 &&& (3 : Int32)) - (1 : Int32)))), .val (.int (own_f0_1 x0 x1 x2 z)), .val (.int (own_f0_2 x0 x1 x2 z)), .val (.int (own_f0_3 x0 x1 x2 z))] [(.int (1 : Int32))]))
                exact own_endN X181 hx Bd.notSynchronized (t := .boolean) Bd.returns (by simp) (hb hby at_320) ⟨(congrArg (fun z => some (Value.int z)) ((show (1 : Int32) = own_f0 x0 x1 x2 z from by simp only [own_f0, if_neg hc183, if_neg hc184, if_neg hc185]).trans (own_law x0 x1 x2 z))), N170⟩ (by decide) (by decide)
        by_cases hc182 : (own_f1 (z + ((x2 &&& (3 : Int32)) - (1 : Int32)))) = (own_f2 (z + ((x2 &&& (3 : Int32)) - (1 : Int32))))
        · refine own_Goes.step (fun t k => XS.icmpNo X181.here hx rfl (hb hby at_290) rfl (XT.ii_ne_f hc182) k) ?_
          show own_Goes p e below s (own_F0 Z x0 x1 x2 n0 h0) room_1.cells room_1.slots (T181.setTop (mkF m 293 #[.val (.int x0), .val (.int x1), .val (.int x2), .val (.ref a1), .val (.int (x0 &&& (1048575 : Int32))), .val (.int (z + ((x2 &&& (3 : Int32)) - (1 : Int32)))), .val (.int (own_f0_1 x0 x1 x2 z)), .val (.int (own_f0_2 x0 x1 x2 z)), .unset] []))
          refine own_Goes.step (fun t k => XT.iconstV X181.here hx rfl (1 : Int32) (hb hby at_293) (by decide) k) ?_
          show own_Goes p e below s (own_F0 Z x0 x1 x2 n0 h0) room_1.cells room_1.slots (T181.setTop (mkF m 294 #[.val (.int x0), .val (.int x1), .val (.int x2), .val (.ref a1), .val (.int (x0 &&& (1048575 : Int32))), .val (.int (z + ((x2 &&& (3 : Int32)) - (1 : Int32)))), .val (.int (own_f0_1 x0 x1 x2 z)), .val (.int (own_f0_2 x0 x1 x2 z)), .unset] [(.int (1 : Int32))]))
          refine own_Goes.step (fun t k => XS.goto X181.here hx rfl (pc0 := 294) (pc' := 298) rfl (hb hby at_294) (by decide) (by decide) k) ?_
          show own_Goes p e below s (own_F0 Z x0 x1 x2 n0 h0) room_1.cells room_1.slots (T181.setTop (mkF m 298 #[.val (.int x0), .val (.int x1), .val (.int x2), .val (.ref a1), .val (.int (x0 &&& (1048575 : Int32))), .val (.int (z + ((x2 &&& (3 : Int32)) - (1 : Int32)))), .val (.int (own_f0_1 x0 x1 x2 z)), .val (.int (own_f0_2 x0 x1 x2 z)), .unset] [(.int (1 : Int32))]))
          rw [show (own_f0_3 x0 x1 x2 z) = (1 : Int32) from by simp only [own_f0_3, if_pos hc182]] at J186
          exact J186
        · refine own_Goes.step (fun t k => XS.icmpYes X181.here hx rfl (pc0 := 290) (pc' := 297) rfl (hb hby at_290) rfl (XT.ii_ne_t hc182) (by decide) (by decide) k) ?_
          show own_Goes p e below s (own_F0 Z x0 x1 x2 n0 h0) room_1.cells room_1.slots (T181.setTop (mkF m 297 #[.val (.int x0), .val (.int x1), .val (.int x2), .val (.ref a1), .val (.int (x0 &&& (1048575 : Int32))), .val (.int (z + ((x2 &&& (3 : Int32)) - (1 : Int32)))), .val (.int (own_f0_1 x0 x1 x2 z)), .val (.int (own_f0_2 x0 x1 x2 z)), .unset] []))
          refine own_Goes.step (fun t k => XT.iconstV X181.here hx rfl (0 : Int32) (hb hby at_297) (by decide) k) ?_
          show own_Goes p e below s (own_F0 Z x0 x1 x2 n0 h0) room_1.cells room_1.slots (T181.setTop (mkF m 298 #[.val (.int x0), .val (.int x1), .val (.int x2), .val (.ref a1), .val (.int (x0 &&& (1048575 : Int32))), .val (.int (z + ((x2 &&& (3 : Int32)) - (1 : Int32)))), .val (.int (own_f0_1 x0 x1 x2 z)), .val (.int (own_f0_2 x0 x1 x2 z)), .unset] [(.int (0 : Int32))]))
          rw [show (own_f0_3 x0 x1 x2 z) = (0 : Int32) from by simp only [own_f0_3, if_neg hc182]] at J186
          exact J186
      by_cases hc179 : (own_f1 (x0 &&& (1048575 : Int32))) = (own_f2 (x0 &&& (1048575 : Int32)))
      · refine own_Goes.step (fun t k => XS.icmpNo X178.here hx rfl (hb hby at_270) rfl (XT.ii_ne_f hc179) k) ?_
        show own_Goes p e below s (own_F0 Z x0 x1 x2 n0 h0) room_1.cells room_1.slots (T178.setTop (mkF m 273 #[.val (.int x0), .val (.int x1), .val (.int x2), .val (.ref a1), .val (.int (x0 &&& (1048575 : Int32))), .val (.int (z + ((x2 &&& (3 : Int32)) - (1 : Int32)))), .val (.int (own_f0_1 x0 x1 x2 z)), .unset, .unset] []))
        refine own_Goes.step (fun t k => XT.iconstV X178.here hx rfl (1 : Int32) (hb hby at_273) (by decide) k) ?_
        show own_Goes p e below s (own_F0 Z x0 x1 x2 n0 h0) room_1.cells room_1.slots (T178.setTop (mkF m 274 #[.val (.int x0), .val (.int x1), .val (.int x2), .val (.ref a1), .val (.int (x0 &&& (1048575 : Int32))), .val (.int (z + ((x2 &&& (3 : Int32)) - (1 : Int32)))), .val (.int (own_f0_1 x0 x1 x2 z)), .unset, .unset] [(.int (1 : Int32))]))
        refine own_Goes.step (fun t k => XS.goto X178.here hx rfl (pc0 := 274) (pc' := 278) rfl (hb hby at_274) (by decide) (by decide) k) ?_
        show own_Goes p e below s (own_F0 Z x0 x1 x2 n0 h0) room_1.cells room_1.slots (T178.setTop (mkF m 278 #[.val (.int x0), .val (.int x1), .val (.int x2), .val (.ref a1), .val (.int (x0 &&& (1048575 : Int32))), .val (.int (z + ((x2 &&& (3 : Int32)) - (1 : Int32)))), .val (.int (own_f0_1 x0 x1 x2 z)), .unset, .unset] [(.int (1 : Int32))]))
        rw [show (own_f0_2 x0 x1 x2 z) = (1 : Int32) from by simp only [own_f0_2, if_pos hc179]] at J187
        exact J187
      · refine own_Goes.step (fun t k => XS.icmpYes X178.here hx rfl (pc0 := 270) (pc' := 277) rfl (hb hby at_270) rfl (XT.ii_ne_t hc179) (by decide) (by decide) k) ?_
        show own_Goes p e below s (own_F0 Z x0 x1 x2 n0 h0) room_1.cells room_1.slots (T178.setTop (mkF m 277 #[.val (.int x0), .val (.int x1), .val (.int x2), .val (.ref a1), .val (.int (x0 &&& (1048575 : Int32))), .val (.int (z + ((x2 &&& (3 : Int32)) - (1 : Int32)))), .val (.int (own_f0_1 x0 x1 x2 z)), .unset, .unset] []))
        refine own_Goes.step (fun t k => XT.iconstV X178.here hx rfl (0 : Int32) (hb hby at_277) (by decide) k) ?_
        show own_Goes p e below s (own_F0 Z x0 x1 x2 n0 h0) room_1.cells room_1.slots (T178.setTop (mkF m 278 #[.val (.int x0), .val (.int x1), .val (.int x2), .val (.ref a1), .val (.int (x0 &&& (1048575 : Int32))), .val (.int (z + ((x2 &&& (3 : Int32)) - (1 : Int32)))), .val (.int (own_f0_1 x0 x1 x2 z)), .unset, .unset] [(.int (0 : Int32))]))
        rw [show (own_f0_2 x0 x1 x2 z) = (0 : Int32) from by simp only [own_f0_2, if_neg hc179]] at J187
        exact J187
    by_cases hc176 : (own_f1 x0) = (own_f2 x0)
    · refine own_Goes.step (fun t k => XS.icmpNo X175.here hx rfl (hb hby at_250) rfl (XT.ii_ne_f hc176) k) ?_
      show own_Goes p e below s (own_F0 Z x0 x1 x2 n0 h0) room_1.cells room_1.slots (T175.setTop (mkF m 253 #[.val (.int x0), .val (.int x1), .val (.int x2), .val (.ref a1), .val (.int (x0 &&& (1048575 : Int32))), .val (.int (z + ((x2 &&& (3 : Int32)) - (1 : Int32)))), .unset, .unset, .unset] []))
      refine own_Goes.step (fun t k => XT.iconstV X175.here hx rfl (1 : Int32) (hb hby at_253) (by decide) k) ?_
      show own_Goes p e below s (own_F0 Z x0 x1 x2 n0 h0) room_1.cells room_1.slots (T175.setTop (mkF m 254 #[.val (.int x0), .val (.int x1), .val (.int x2), .val (.ref a1), .val (.int (x0 &&& (1048575 : Int32))), .val (.int (z + ((x2 &&& (3 : Int32)) - (1 : Int32)))), .unset, .unset, .unset] [(.int (1 : Int32))]))
      refine own_Goes.step (fun t k => XS.goto X175.here hx rfl (pc0 := 254) (pc' := 258) rfl (hb hby at_254) (by decide) (by decide) k) ?_
      show own_Goes p e below s (own_F0 Z x0 x1 x2 n0 h0) room_1.cells room_1.slots (T175.setTop (mkF m 258 #[.val (.int x0), .val (.int x1), .val (.int x2), .val (.ref a1), .val (.int (x0 &&& (1048575 : Int32))), .val (.int (z + ((x2 &&& (3 : Int32)) - (1 : Int32)))), .unset, .unset, .unset] [(.int (1 : Int32))]))
      rw [show (own_f0_1 x0 x1 x2 z) = (1 : Int32) from by simp only [own_f0_1, if_pos hc176]] at J188
      exact J188
    · refine own_Goes.step (fun t k => XS.icmpYes X175.here hx rfl (pc0 := 250) (pc' := 257) rfl (hb hby at_250) rfl (XT.ii_ne_t hc176) (by decide) (by decide) k) ?_
      show own_Goes p e below s (own_F0 Z x0 x1 x2 n0 h0) room_1.cells room_1.slots (T175.setTop (mkF m 257 #[.val (.int x0), .val (.int x1), .val (.int x2), .val (.ref a1), .val (.int (x0 &&& (1048575 : Int32))), .val (.int (z + ((x2 &&& (3 : Int32)) - (1 : Int32)))), .unset, .unset, .unset] []))
      refine own_Goes.step (fun t k => XT.iconstV X175.here hx rfl (0 : Int32) (hb hby at_257) (by decide) k) ?_
      show own_Goes p e below s (own_F0 Z x0 x1 x2 n0 h0) room_1.cells room_1.slots (T175.setTop (mkF m 258 #[.val (.int x0), .val (.int x1), .val (.int x2), .val (.ref a1), .val (.int (x0 &&& (1048575 : Int32))), .val (.int (z + ((x2 &&& (3 : Int32)) - (1 : Int32)))), .unset, .unset, .unset] [(.int (0 : Int32))]))
      rw [show (own_f0_1 x0 x1 x2 z) = (0 : Int32) from by simp only [own_f0_1, if_neg hc176]] at J188
      exact J188
  obtain ⟨t2, o2, q1, q2, q3, q4⟩ := hgo
  exact ⟨t2, o2, castTop (ef_0 m x0 x1 x2) q1, q2, q3, q4⟩

set_option maxRecDepth 65536 in
set_option maxHeartbeats 40000000 in
theorem comes_1 {Post : Tables → Env → Array Value → State → Outcome → State → Prop} (hpost : ∀ tb e args s v u, (limb_1_1.after args s (.returned v) u = true ∧ limb_1_2.after args s (.returned v) u = true ∧ True) → FrameEnd s (.returned v) u (Jvm.fieldLocs frame_1_writes args s ++ Jvm.arrayLocs frame_1_arrays args s ++ Jvm.staticLocs frame_1_statics s) 16 192 → Post tb e args s (.returned v) u) :
    ArmFor flags0 classFile x code maxLocals ret World_1 tables_1 room_1 Calls_1 rest_1 Pre_1 Post := by
  intro l hfl _ _ p e ha hc hk s m args below hf hA hF happ hP
  obtain ⟨hcalls, hrest, hpre⟩ := hP
  obtain ⟨-, -, -, hnamed, -, -, -, hat⟩ := (Spec.applies_iff hf).mp happ
  obtain ⟨hg, hn⟩ := and_e (Cond.before_iff.mp (show (Jvm.Cond.and given_1 narrow_1).before args s = true from hpre))
  obtain ⟨hcount, hr0⟩ := and_e hg
  obtain ⟨w0, w1, w2, rfl⟩ : ∃ w0 w1 w2 : Value, args = #[w0, w1, w2] := by
    have hs : args.size = 3 := by simpa [Cond.value, given_1] using hcount
    obtain ⟨L⟩ := args
    match L, hs with
    | [w0, w1, w2], _ => exact ⟨w0, w1, w2, rfl⟩
  have hw := fun d (hd : d ∈ tables_1) => atoms_spec (ws := Jvm.Cond.code x code maxLocals ret :: tables_1) hat d (List.mem_cons_of_mem _ hd)
  obtain ⟨ha0, hr1⟩ := and_e hr0
  obtain ⟨i0, ev0⟩ := is_v ha0
  obtain rfl : w0 = (.int i0) := Option.some.inj ev0
  obtain ⟨ha1, hr2⟩ := and_e hr1
  obtain ⟨i1, ev1⟩ := is_v ha1
  obtain rfl : w1 = (.int i1) := Option.some.inj ev1
  obtain ⟨i2, ev2⟩ := is_v hr2
  obtain rfl : w2 = (.int i2) := Option.some.inj ev2
  obtain ⟨n, o, h1, h2, h3, _, L, rfl, ⟨rfl, N⟩, hq⟩ := own_m0 l s _ hw tables_1 i0 i1 i2 s.heap.size s.heap (Nat.le_refl _) p e ha hc hk s m _ below hf ((Spec.applies_iff_loose hf).mp happ).1 ⟨rfl, State.Warmed39.refl s, rfl⟩ trivial
  refine ⟨n, _, h1, h2, h3, hpost _ _ _ _ _ _ ⟨Cond.after_iff.mpr rfl, Cond.after_iff.mpr (eq_i res_at (Term.int_eval (1)) rfl), trivial⟩ ⟨hq.1, hq.2.1, (hq.2.2.sift fun y hy => Or.inr (N y hy)).mono (by decide) (by decide)⟩⟩
theorem main_1_1 : Claimed_1_1 := comes_1 fun _ _ _ _ _ _ h hF => ⟨h.1, hF⟩
theorem main_1_2 : Claimed_1_2 := comes_1 fun _ _ _ _ _ _ h hF => ⟨h.2.1, hF⟩
end Jvm.Pilot.@@N@@
namespace Jvm.Pilot.@@N@@
open Jvm Jvm.ClassFile Sem Op Lib Jvm.Free Jvm.Stand Jvm.Pilot.@@N@@.Jvm.D
/-! MADE BY PROGRAM (witnessworld.py) out of the Statement's table words and the real class files: 9 classes; the members and pool entries that the words name. The judged class is class 1, her method 1. -/
namespace start1
open Jvm.ClassFile
def u (s : String) : CpInfo := .utf8 (stringToUtf16 s)
/-- a pool by its gaps: so many unusable entries, then the entry; so many at the end -/
def gap : Nat → List CpInfo → List CpInfo
  | 0, r => r
  | n + 1, r => .unusable :: gap n r
def poolList (es : List (Nat × CpInfo)) (last : Nat) : List CpInfo := es.foldr (fun e r => gap e.1 (e.2 :: r)) (gap last [])
def pool (es : List (Nat × CpInfo)) (last : Nat) : Array CpInfo := ⟨poolList es last⟩
def fileOf (pool : Array CpInfo) (this : Nat) (attrs : Array Attribute := #[]) (ms : Array MethodInfo := #[]) (fl : Nat := 33) (sup : Nat := 0) (ifs : Array Nat := #[]) (fds : Array FieldInfo := #[]) : ClassFile where
  minorVersion := 0
  majorVersion := 65
  constantPool := pool
  accessFlags := fl
  thisClass := this
  superClass := sup
  interfaces := ifs
  fields := fds
  methods := ms
  attributes := attrs
def plain (name : String) (sup : Option ClassId) : Class where
  name := name
  kind := .ordinary
  loader := none
  accessFlags := 33
  super := sup
  interfaces := #[]
  cf := none
  fields := #[]
  methods := #[]
  instanceTypes := #[]
  staticTypes := #[]
  resolved := #[]
  callSites := []
  init := .initialized
  statics := none
  mirror := none

def pool0 : Array CpInfo := pool [(5, u "<init>"), (0, u "()V"), (1, .class_ 10), (1, u "java/lang/Object")] 113

def k0m0 : Method := { name := "<init>", desc := "()V", sig := { parameters := [], returnType := none }, accessFlags := 1, code := none }
/-- java/lang/Object -/
def k0 : Class := { plain "java/lang/Object" none with
  accessFlags := 33
  interfaces := #[]
  cf := some (fileOf pool0 8 #[] #[{ accessFlags := 1, nameIndex := 5, descriptorIndex := 6, attributes := #[] }] 33 0 #[] #[])
  fields := #[]
  methods := #[k0m0]
  instanceTypes := #[]
  staticTypes := #[]
  resolved := Array.replicate 124 none
  statics := none }

def pool1 : Array CpInfo := pool [(2, .class_ 4), (1, u "java/lang/Object"), (0, u "<init>"), (0, u "()V"), (0, .integer 55295), (0, .integer 63744), (0, .integer 64975), (0, .integer 65008), (0, .integer 65533), (0, .integer 65536), (0, .integer 983039), (2, .integer 2147483649), (0, .integer 2147483645), (0, .integer 1048575), (0, .integer 2147483647), (0, .methodref 21 22), (0, .class_ 23), (0, .nameAndType 24 25), (0, u "com/example/arbora/arbora/XmlSyntax"), (0, u "isNameStartChar"), (0, u "(I)Z"), (0, .methodref 27 28), (0, .class_ 29), (0, .nameAndType 30 25), (0, u "com/example/arbora/arbora/XmlSyntaxIsNameStartCharPinLaw"), (0, u "ref"), (0, .integer 55296), (0, .integer 64976), (2, u "law"), (0, u "(III)Z")] 5

def k1m0 : Method := { name := "<init>", desc := "()V", sig := { parameters := [], returnType := none }, accessFlags := 2, code := none }
def k1c1 : Code := { maxStack := 4, maxLocals := 9, code := code, exceptionTable := #[], attributes := #[] }
def k1m1 : Method := { name := "law", desc := "(III)Z", sig := { parameters := [.int, .int, .int], returnType := some .boolean }, accessFlags := 9, code := some k1c1 }
def k1c2 : Code := { maxStack := 2, maxLocals := 1, code := method_3_code, exceptionTable := #[], attributes := #[] }
def k1m2 : Method := { name := "ref", desc := "(I)Z", sig := { parameters := [.int], returnType := some .boolean }, accessFlags := 10, code := some k1c2 }
/-- com/example/arbora/arbora/XmlSyntaxIsNameStartCharPinLaw -/
def k1 : Class := { plain "com/example/arbora/arbora/XmlSyntaxIsNameStartCharPinLaw" (some 0) with
  accessFlags := 49
  interfaces := #[]
  cf := some (fileOf pool1 27 #[] #[{ accessFlags := 2, nameIndex := 5, descriptorIndex := 6, attributes := #[] }, { accessFlags := 9, nameIndex := 35, descriptorIndex := 36, attributes := #[] }, { accessFlags := 10, nameIndex := 30, descriptorIndex := 25, attributes := #[] }] 49 2 #[] #[])
  fields := #[]
  methods := #[k1m0, k1m1, k1m2]
  instanceTypes := #[]
  staticTypes := #[]
  resolved := Array.replicate 42 none
  statics := none }

def pool2 : Array CpInfo := pool [(2, .class_ 4), (1, u "java/lang/Object"), (0, u "<init>"), (0, u "()V"), (11, .class_ 20), (1, u "com/example/arbora/arbora/XmlSyntax"), (24, u "isNameStartChar"), (0, u "(I)Z"), (24, .integer 55295), (0, .integer 63744), (0, .integer 64975), (0, .integer 65008), (0, .integer 65533), (0, .integer 65536), (0, .integer 983039)] 27

def k2m0 : Method := { name := "<init>", desc := "()V", sig := { parameters := [], returnType := none }, accessFlags := 2, code := none }
def k2c1 : Code := { maxStack := 2, maxLocals := 1, code := prog_149_method_11_code, exceptionTable := #[], attributes := #[] }
def k2m1 : Method := { name := "isNameStartChar", desc := "(I)Z", sig := { parameters := [.int], returnType := some .boolean }, accessFlags := 8, code := some k2c1 }
/-- com/example/arbora/arbora/XmlSyntax -/
def k2 : Class := { plain "com/example/arbora/arbora/XmlSyntax" (some 0) with
  accessFlags := 48
  interfaces := #[]
  cf := some (fileOf pool2 18 #[] #[{ accessFlags := 2, nameIndex := 5, descriptorIndex := 6, attributes := #[] }, { accessFlags := 8, nameIndex := 45, descriptorIndex := 46, attributes := #[] }] 48 2 #[] #[])
  fields := #[]
  methods := #[k2m0, k2m1]
  instanceTypes := #[]
  staticTypes := #[]
  resolved := Array.replicate 105 none
  statics := none }

def pool3 : Array CpInfo := pool [(1, u "java/lang/Cloneable"), (0, .class_ 1), (0, u "java/lang/Object"), (0, .class_ 3)] 3

/-- java/lang/Cloneable -/
def k3 : Class := { plain "java/lang/Cloneable" (some 0) with
  accessFlags := 1537
  interfaces := #[]
  cf := some (fileOf pool3 2 #[] #[] 1537 4 #[] #[])
  fields := #[]
  methods := #[]
  instanceTypes := #[]
  staticTypes := #[]
  resolved := Array.replicate 8 none
  statics := none }

def pool4 : Array CpInfo := pool [(1, u "java/io/Serializable"), (0, .class_ 1), (0, u "java/lang/Object"), (0, .class_ 3)] 3

/-- java/io/Serializable -/
def k4 : Class := { plain "java/io/Serializable" (some 0) with
  accessFlags := 1537
  interfaces := #[]
  cf := some (fileOf pool4 2 #[] #[] 1537 4 #[] #[])
  fields := #[]
  methods := #[]
  instanceTypes := #[]
  staticTypes := #[]
  resolved := Array.replicate 8 none
  statics := none }

/-- the primitive byte -/
def k5 : Class := { plain "byte" none with kind := .primitive 'B', accessFlags := 0x411 }
/-- [B -/
def k6 : Class := { plain "[B" (some 0) with kind := .array 5 .byte, interfaces := #[3, 4], accessFlags := 1041 }

/-- the primitive int -/
def k7 : Class := { plain "int" none with kind := .primitive 'I', accessFlags := 0x411 }
/-- [I -/
def k8 : Class := { plain "[I" (some 0) with kind := .array 7 .int, interfaces := #[3, 4], accessFlags := 1041 }

def heap : Heap := #[]
def classes : Array Class := #[k0, k1, k2, k3, k4, k5, k6, k7, k8]
def interned : List (Array UInt16 × Addr) := []
def slotsUsed : Nat := 0
def theMethod : MethodId := ⟨1, 1⟩
def args0 : Array Value := #[.int 5, .int 3, .int 1]
def aboutOver (below : List Frame) : State where
  vm := { classes := classes, interned := interned.toArray }
  heap := heap
  slotsUsed := slotsUsed
  threads := #[{ frames := .invoking theMethod args0 :: below }]
def below0 : List Frame := [.native { method := ⟨0, 0⟩, args := #[] }]
def about1 : State := aboutOver below0
def p0 : Program := .bare "" "" ""
def e0 : Env := launch0.env 0 0 0
theorem w_frames : about1.frames = Frame.invoking theMethod args0 :: below0 := rfl
set_option maxRecDepth 65536 in
theorem w_args : argsFit about1.vm theMethod args0 = true := by decide +kernel
set_option maxRecDepth 65536 in
theorem w_heap : heapFits about1 = true := by decide +kernel
set_option maxRecDepth 65536 in
theorem w_runnable : about1.curStatus? = some .runnable := by decide +kernel
set_option maxRecDepth 65536 in
theorem w_alone : about1.alone = true := by decide +kernel
set_option maxRecDepth 65536 in
theorem w_named : about1.methodNamed? x = some theMethod := by decide +kernel
set_option maxRecDepth 65536 in
theorem w_hears : about1.hears theMethod below0 = true := by decide +kernel
set_option maxRecDepth 65536 in
theorem w_ripe : about1.ripe theMethod args0 below0 = true := by decide +kernel
theorem w_running : about1.status = .running := rfl
set_option maxRecDepth 65536 in
theorem w_room : about1.hasRoom e0.platform room_1 = true :=
  launch0.hasRoom_least _ room_1 (by decide +kernel) (by decide +kernel) (by decide +kernel) (by decide +kernel) (by decide +kernel) (by decide +kernel)
theorem allAtoms_all (ts : List Jvm.Cond) (a : Array Jvm.Value) (st : Jvm.State) : (allAtoms ts).before a st = ts.all (fun c => c.before a st) := by
  induction ts with
  | nil => rfl
  | cons c t ih =>
    show (Jvm.Cond.and c (allAtoms t)).before a st = _
    rw [Jvm.Cond.before_and, ih, List.all_cons]
def words1 : List Jvm.Cond := Jvm.Cond.code x code maxLocals ret :: tables_1
/-- a 'code' word, met by the world's own term for the bytes: nothing is compared byte by byte -/
theorem code_word {y : MethodName} {bytes : ByteArray} {mx : Nat} {rt : Option FieldType} {a : Array Value} {s : State} {m : MethodId} {meth : Method} {c : Code} (h1 : s.methodNamed? y = some m) (h2 : s.vm.method? m = some meth) (h3 : meth.code = some c) (h4 : c.code = bytes)
    (h5 : (c.maxLocals == mx && c.exceptionTable.isEmpty && decide (c.maxStack ≤ mostOperands) && decide (meth.sig.returnType = rt) && !meth.locks && decide (parseMethodDescriptor y.desc = some meth.sig)) = true) : (Jvm.Cond.code y bytes mx rt).before a s = true := by
  simp only [Bool.and_eq_true, beq_iff_eq, Bool.not_eq_true', decide_eq_true_eq] at h5
  obtain ⟨⟨⟨⟨⟨g1, g2⟩, g3⟩, g4⟩, g5⟩, g6⟩ := h5
  simp [Cond.before, Cond.holds, Cond.value, h1, h2, h3, h4, g1, g2, g3, g4, g5, g6]
def isCode : Jvm.Cond → Bool
  | .code _ _ _ _ => true
  | _ => false
theorem all_split {L : List Jvm.Cond} {P : Jvm.Cond → Bool} (h1 : L.all (fun c => isCode c || P c) = true) (h2 : ∀ c ∈ L.filter isCode, P c = true) : L.all P = true := by
  refine List.all_eq_true.mpr fun c hc => ?_
  have h := List.all_eq_true.mp h1 c hc
  rcases Bool.eq_false_or_eq_true (isCode c) with hi | hi
  · exact h2 c (List.mem_filter.mpr ⟨hc, hi⟩)
  · simpa [hi] using h
set_option maxRecDepth 65536 in
theorem w_c0 : (Jvm.Cond.code x code maxLocals ret).before args0 about1 = true := code_word (m := ⟨1, 1⟩) (meth := k1m1) (c := k1c1) (by decide +kernel) rfl rfl rfl (by decide +kernel)
set_option maxRecDepth 65536 in
theorem w_c1 : (Jvm.Cond.code ({ cls := "com/example/arbora/arbora/XmlSyntax", name := "isNameStartChar", desc := "(I)Z" } : Jvm.MethodName) prog_149_method_11_code (1 : Nat) (Option.some Jvm.ClassFile.FieldType.boolean)).before args0 about1 = true := code_word (m := ⟨2, 1⟩) (meth := k2m1) (c := k2c1) (by decide +kernel) rfl rfl rfl (by decide +kernel)
set_option maxRecDepth 65536 in
theorem w_c2 : (Jvm.Cond.code ({ cls := "com/example/arbora/arbora/XmlSyntaxIsNameStartCharPinLaw", name := "ref", desc := "(I)Z" } : Jvm.MethodName) method_3_code (1 : Nat) (Option.some Jvm.ClassFile.FieldType.boolean)).before args0 about1 = true := code_word (m := ⟨1, 2⟩) (meth := k1m2) (c := k1c2) (by decide +kernel) rfl rfl rfl (by decide +kernel)
def codes1 : List Jvm.Cond := [Jvm.Cond.code x code maxLocals ret, Jvm.Cond.code ({ cls := "com/example/arbora/arbora/XmlSyntax", name := "isNameStartChar", desc := "(I)Z" } : Jvm.MethodName) prog_149_method_11_code (1 : Nat) (Option.some Jvm.ClassFile.FieldType.boolean), Jvm.Cond.code ({ cls := "com/example/arbora/arbora/XmlSyntaxIsNameStartCharPinLaw", name := "ref", desc := "(I)Z" } : Jvm.MethodName) method_3_code (1 : Nat) (Option.some Jvm.ClassFile.FieldType.boolean)]
set_option maxRecDepth 65536 in
theorem codes_eq : words1.filter isCode = codes1 := rfl
theorem w_codes : ∀ c ∈ words1.filter isCode, c.before args0 about1 = true := by
  rw [codes_eq]
  intro c hc
  simp only [codes1, List.mem_cons, List.not_mem_nil, or_false] at hc
  rcases hc with rfl | rfl | rfl
  · exact w_c0
  · exact w_c1
  · exact w_c2
set_option maxRecDepth 65536 in
theorem w_t1 : (words1.take 24).all (fun c => isCode c || c.before args0 about1) = true := by decide +kernel
set_option maxRecDepth 65536 in
theorem w_t2 : (words1.drop 24).all (fun c => isCode c || c.before args0 about1) = true := by decide +kernel
theorem w_tables : (allAtoms (Jvm.Cond.code x code maxLocals ret :: tables_1)).before args0 about1 = true := by
  rw [allAtoms_all]
  show words1.all (fun c => c.before args0 about1) = true
  refine all_split ?_ w_codes
  rw [← List.take_append_drop 24 words1, List.all_append, w_t1, w_t2]
  rfl
set_option maxRecDepth 65536 in
theorem w_case : (Jvm.Cond.and given_1 narrow_1).before args0 about1 = true := by decide +kernel
theorem w_applies : (headSpec (Jvm.Cond.code x code maxLocals ret :: tables_1) room_1).applies x e0.platform about1 = true :=
  (Spec.applies_iff w_frames).mpr ⟨w_running, w_runnable, w_alone, w_named, w_hears, w_ripe, w_room, w_tables⟩
theorem atStart : AtStart classFile x code maxLocals ret World_1 tables_1 room_1 Calls_1 rest_1 Pre_1 launch0 p0 e0 about1 theMethod args0 below0 :=
  ⟨lists_1, trivial, launch0.admits_env _ _ _, launch0.least_env, fairChoices_fair.cas, fairChoices_fair.clock, w_frames, w_args, w_heap, w_applies, trivial, trivial, w_case⟩
end start1
theorem witness_1 : WitnessClaimed_1 := ⟨start1.p0, start1.e0, start1.about1, start1.theMethod, start1.args0, start1.below0, start1.atStart⟩
end Jvm.Pilot.@@N@@
