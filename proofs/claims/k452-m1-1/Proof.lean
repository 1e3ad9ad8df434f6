import JvmDerived
import JvmDerived.Pilot.@@N@@Statement
import JvmDerived.Pilot.@@N@@Code
set_option linter.unusedVariables false
set_option linter.unusedSimpArgs false
@@BLOCK:NumsL.lean.txt@@
namespace Jvm.RoadKit
open Sem ClassFile Op Lib Jvm.Stand Jvm.Free Jvm.LawKit
section New
variable {p : Program} {l : Launch} {e : Env} {R : Room} {s : State} {m : MethodId} {args : Array Value} {below : List Frame} {meth : Method} {c : Code} {T : State} {locs : List Loc} {cells slots : Nat}
theorem retI (X : Stand p l e R s m args below meth c T locs cells slots) (hx : p.tables.exec = Jvm.exec) {pc : Nat} {Ls : Array Slot} {z : Int32} {rest : List Value} (hret : meth.sig.returnType = some .int) (hd : decode c.code pc = .ok (.ireturn, 1)) {fs : List Frame}
    (hl : ∀ (f : JFrame) (acts : List Action), f.method = m → f.locked = none → f.entered = [] → (doReturn e (T.setTop f) acts (some (.int z))).1 = T.setFrames fs) : Steps p.tables e below (T.setTop (mkF m pc Ls (.int z :: rest))) (T.setFrames fs) := by
  have hm' : T.vm.method? m = some meth := X.method'
  have hn : narrow .int (.int z) = .int z := rfl
  show Steps p.tables e below (T.setTop { method := m, pc := pc, locals := Ls, stack := _ :: rest, locked := none }) _
  jvm_step X.here [X.here.top, hx, hd, hm', hret, hn]
  first | (intro acts; rw [hl _ acts rfl rfl rfl]) | rw [hl _ _ rfl rfl rfl]
  exact Steps.refl _
/-- the run from A comes to a return of which F says the value, the heap and the written places -/
def own_Goes (p : Program) (e : Env) (below : List Frame) (s : State) (F : Option Value → Heap → List Loc → Prop) (k n : Nat) (A : State) : Prop :=
  ∃ s₂ o, Steps p.tables e below A s₂ ∧ s₂.status = .running ∧ Ended s₂ below o ∧ ∃ v L, o = .returned v ∧ F v s₂.heap L ∧ FrameEnd s o s₂ L k n
variable {F : Option Value → Heap → List Loc → Prop} {k n : Nat}
theorem own_Goes.step {A B : State} (h : ∀ t, Steps p.tables e below B t → Steps p.tables e below A t) (g : own_Goes p e below s F k n B) : own_Goes p e below s F k n A := by
  obtain ⟨s₂, o, h1, h2⟩ := g
  exact ⟨s₂, o, h _ h1, h2⟩
theorem own_endI (X : Stand p l e R s m args below meth c T locs cells slots) (hx : p.tables.exec = Jvm.exec) (hlk : meth.locks = false) {pc : Nat} {Ls : Array Slot} {z : Int32} {rest : List Value} (hret : meth.sig.returnType = some .int) (hd : decode c.code pc = .ok (.ireturn, 1)) (hF : F (some (.int z)) T.heap locs) (hk : cells ≤ k) (hn : slots ≤ n) :
    own_Goes p e below s F k n (T.setTop (mkF m pc Ls (.int z :: rest))) := by
  obtain ⟨fs, hr, hrun, hended, hW, hsame⟩ := X.leave (v := some (.int z)) (fun h => by rw [hret] at h; cases h) hlk
  exact ⟨_, _, retI X hx hret hd hr, hrun, hended, _, _, rfl, hF, ⟨_, rfl⟩, hW, hsame.mono hk hn⟩
theorem own_endN (X : Stand p l e R s m args below meth c T locs cells slots) (hx : p.tables.exec = Jvm.exec) (hlk : meth.locks = false) {pc : Nat} {Ls : Array Slot} {z : Int32} {t : FieldType} {rest : List Value} (hret : meth.sig.returnType = some t) (ht : t = .boolean ∨ t = .byte ∨ t = .char ∨ t = .short) (hd : decode c.code pc = .ok (.ireturn, 1)) (hF : F (some (.int (nar t z))) T.heap locs) (hk : cells ≤ k) (hn : slots ≤ n) :
    own_Goes p e below s F k n (T.setTop (mkF m pc Ls (.int z :: rest))) := by
  obtain ⟨fs, hr, hrun, hended, hW, hsame⟩ := X.leave (v := some (.int (nar t z))) (fun h => by rw [hret] at h; cases h) hlk
  exact ⟨_, _, retN X hx hret ht hd hr, hrun, hended, _, _, rfl, hF, ⟨_, rfl⟩, hW, hsame.mono hk hn⟩
theorem own_endJ (X : Stand p l e R s m args below meth c T locs cells slots) (hx : p.tables.exec = Jvm.exec) (hlk : meth.locks = false) {pc : Nat} {Ls : Array Slot} {z : Int64} (hret : meth.sig.returnType = some .long) (hd : decode c.code pc = .ok (.lreturn, 1)) (hF : F (some (.long z)) T.heap locs) (hk : cells ≤ k) (hn : slots ≤ n) :
    own_Goes p e below s F k n (T.setTop (mkF m pc Ls [.long z])) := by
  obtain ⟨fs, hr, hrun, hended, hW, hsame⟩ := X.leave (v := some (.long z)) (fun h => by rw [hret] at h; cases h) hlk
  exact ⟨_, _, X.lreturnOut hx hret hd hr, hrun, hended, _, _, rfl, hF, ⟨_, rfl⟩, hW, hsame.mono hk hn⟩
theorem own_endV (X : Stand p l e R s m args below meth c T locs cells slots) (hx : p.tables.exec = Jvm.exec) (hlk : meth.locks = false) {pc : Nat} {Ls : Array Slot} (hret : meth.sig.returnType = none) (hd : decode c.code pc = .ok (.return_, 1)) (hF : F none T.heap locs) (hk : cells ≤ k) (hn : slots ≤ n) :
    own_Goes p e below s F k n (T.setTop (mkF m pc Ls [])) := by
  obtain ⟨fs, hr, hrun, hended, hW, hsame⟩ := X.leave (v := none) (fun _ => rfl) hlk
  exact ⟨_, _, X.returnOut hx hret hd hr, hrun, hended, _, _, rfl, hF, ⟨_, rfl⟩, hW, hsame.mono hk hn⟩
theorem own_endA (X : Stand p l e R s m args below meth c T locs cells slots) (hx : p.tables.exec = Jvm.exec) (hlk : meth.locks = false) {pc : Nat} {Ls : Array Slot} {w : Value} {t : FieldType} (hw : w.isRef = true) (hret : meth.sig.returnType = some t) (ht : t.isReference = true) (hd : decode c.code pc = .ok (.areturn, 1)) (hF : F (some w) T.heap locs) (hk : cells ≤ k) (hn : slots ≤ n) :
    own_Goes p e below s F k n (T.setTop (mkF m pc Ls [w])) := by
  obtain ⟨fs, hr, hrun, hended, hW, hsame⟩ := X.leave (v := some w) (fun h => by rw [hret] at h; cases h) hlk
  exact ⟨_, _, X.areturnOut hx hw hret ht hd hr, hrun, hended, _, _, rfl, hF, ⟨_, rfl⟩, hW, hsame.mono hk hn⟩
theorem own_lrem (x y : Int64) : x - x / y * y = x % y := by
  refine Int64.toInt_inj.mp ?_
  rw [Jvm.Kit.i64_rem, Int64.toInt_mod]
theorem own_lremM {g : JFrame} {target : State} (X : Stand p l e R s m args below meth c T locs cells slots) (hx : p.tables.exec = Jvm.exec) (hg : g.method = m) {x y : Int64} {rest : List Value} (hd : decode c.code g.pc = .ok (.lrem, 1)) (hs : g.stack = .long y :: .long x :: rest) (hy : y ≠ 0)
    (hr : Steps p.tables e below (T.setTop { g with pc := g.pc + 1, stack := .long (x % y) :: rest }) target) : Steps p.tables e below (T.setTop g) target :=
  XT.lrem X.here hx hg hd hs hy (by rw [own_lrem]; exact hr)
/-- the three calls, by a contract in this family, carried forward -/
theorem own_stat {Z : State} {a0 : Array Value} {h : Heap} (X : Stand p l e R s m args below meth c T locs cells slots) (hx : p.tables.exec = Jvm.exec) (hZ : Z.Warmed39 s.vm) (eT : T.heap = h) {own : String} {index : Nat} {y : MethodName} {bytes : ByteArray} {maxL : Nat} {ret : Option FieldType} {rm : Room} {W : Nat} {argsL rest : List Value} {Q : Option Value → Heap → List Loc → Prop}
    (hown : s.vm.findClass own = some m.cls) (wl : (Cond.methodLink own index y).before a0 Z = true) (wst : (Cond.static y).before a0 Z = true) (wi : (Cond.initialized y.cls).before a0 Z = true) (wc : (Cond.code y bytes maxL ret).before a0 Z = true) (hy : y.cls ≠ "java/lang/invoke/MethodHandle" ∧ y.cls ≠ "java/lang/invoke/VarHandle")
    (hM : MetFree l y (head1 [Cond.code y bytes maxL ret] rm) (fun a U => a = argsL.toArray ∧ Z.Warmed39 U.vm ∧ U.heap = h) (fun _ _ _ _ _ => True) (fun _ U o U' => ∃ w L, o = .returned w ∧ Q w U'.heap L ∧ FrameEnd U o U' L rm.cells rm.slots))
    (hf : rm.frames + 1 ≤ R.frames) (hl : W + (maxL + 11) + rm.locals ≤ R.locals) (hcells : cells + rm.cells ≤ R.cells) (hslots : slots + rm.slots ≤ R.slots)
    {g : JFrame} (hg : g.method = m) (hsize : g.locals.size = c.maxLocals) (hlen : ∀ sig, parseMethodDescriptor y.desc = some sig → argsL.length = sig.parameters.length) (hstack : g.stack = argsL.reverse ++ rest) (hW : 2 * g.monitorRoom + (rest.map fun v => v.category).sum ≤ W) (hdg : decode c.code g.pc = .ok (.invokestatic index, 3)) :
    ∃ w T' L, Q w T'.heap L ∧ Stand p l e R s m args below meth c T' (locs ++ L) (cells + rm.cells) (slots + rm.slots) ∧ ∀ t, Steps p.tables e below (T'.setTop { g with pc := g.pc + 3, stack := w.toList ++ rest }) t → Steps p.tables e below (T.setTop g) t := by
  have hB := backOf (R := R) (p := p) (e := e) (below := below) (args := args) (len := 3) (W := W) (Q := Q) hM hZ wc wi hf hl
  obtain ⟨w, vm₁, ⟨U, Lc, k1, n1⟩, -, X', ⟨L, hQ, hL, hC, hS⟩, st⟩ := Jvm.LawKit.callS X hx (y := y) hown (mvT hZ wl) (mvT hZ wst) (mvT hZ wi) (mvT hZ wc) hy hB (g := g) hg hsize hlen hstack hW hdg (fun _ _ => ⟨rfl, eT, hcells, hslots⟩)
  dsimp only [Pt.U, Pt.locs, Pt.cells, Pt.slots] at X' hQ hL hC hS st
  subst hL hC hS
  exact ⟨w, U, L, hQ, X', st⟩
theorem own_spec {Z : State} {a0 : Array Value} {h : Heap} (X : Stand p l e R s m args below meth c T locs cells slots) (hx : p.tables.exec = Jvm.exec) (hZ : Z.Warmed39 s.vm) (eT : T.heap = h) {own : String} {index : Nat} {y : MethodName} {bytes : ByteArray} {maxL : Nat} {rm : Room} {W : Nat} {a : Addr} {argsL rest : List Value} {Q : Option Value → Heap → List Loc → Prop}
    (hy1 : y.name = "<init>") (hown : s.vm.findClass own = some m.cls) (wl : (Cond.methodLink own index y).before a0 Z = true) (wst : (Cond.instanceMethod y).before a0 Z = true) (wi : (Cond.initialized y.cls).before a0 Z = true) (wc : (Cond.code y bytes maxL none).before a0 Z = true) (hy : y.cls ≠ "java/lang/invoke/MethodHandle" ∧ y.cls ≠ "java/lang/invoke/VarHandle")
    (hM : MetFree l y (head1 [Cond.code y bytes maxL none] rm) (fun b U => b = (.ref a :: argsL).toArray ∧ Z.Warmed39 U.vm ∧ U.heap = h) (fun _ _ _ _ _ => True) (fun _ U o U' => ∃ w L, o = .returned w ∧ Q w U'.heap L ∧ FrameEnd U o U' L rm.cells rm.slots))
    (hf : rm.frames + 1 ≤ R.frames) (hl : W + (maxL + 11) + rm.locals ≤ R.locals) (hcells : cells + rm.cells ≤ R.cells) (hslots : slots + rm.slots ≤ R.slots)
    {g : JFrame} (hg : g.method = m) (hsize : g.locals.size = c.maxLocals) (hlen : ∀ sig, parseMethodDescriptor y.desc = some sig → argsL.length = sig.parameters.length) (hstack : g.stack = argsL.reverse ++ .ref a :: rest) (hW : 2 * g.monitorRoom + (rest.map fun v => v.category).sum ≤ W) (hdg : decode c.code g.pc = .ok (.invokespecial index, 3)) :
    ∃ w T' L, Q w T'.heap L ∧ Stand p l e R s m args below meth c T' (locs ++ L) (cells + rm.cells) (slots + rm.slots) ∧ ∀ t, Steps p.tables e below (T'.setTop { g with pc := g.pc + 3, stack := w.toList ++ rest }) t → Steps p.tables e below (T.setTop g) t := by
  have hB := backOf (R := R) (p := p) (e := e) (below := below) (args := args) (len := 3) (W := W) (Q := Q) hM hZ wc wi hf hl
  obtain ⟨w, vm₁, ⟨U, Lc, k1, n1⟩, -, X', ⟨L, hQ, hL, hC, hS⟩, st⟩ := X.specialBack hx (y := y) hy1 hown (mvT hZ wl) (mvT hZ wst) (mvT hZ wc) hy hB (g := g) hg hsize (Steps.refl _) (a := a) hlen hstack hW hdg (fun _ _ => ⟨rfl, eT, hcells, hslots⟩)
  dsimp only [Pt.U, Pt.locs, Pt.cells, Pt.slots] at X' hQ hL hC hS st
  subst hL hC hS
  exact ⟨w, U, L, hQ, X', fun t k => st.trans k⟩
theorem own_virt {Z : State} {a0 : Array Value} {h : Heap} (X : Stand p l e R s m args below meth c T locs cells slots) (hx : p.tables.exec = Jvm.exec) (hZ : Z.Warmed39 s.vm) (eT : T.heap = h) {own C : String} {index : Nat} {y : MethodName} {bytes : ByteArray} {maxL : Nat} {ret : Option FieldType} {rm : Room} {W : Nat} {a : Addr} {argsL rest : List Value} {Q : Option Value → Heap → List Loc → Prop}
    (E : Exa Z h a C) (hown : s.vm.findClass own = some m.cls) (wl : (Cond.methodLink own index y).before a0 Z = true) (wd : (Cond.declares y).before a0 Z = true) (ws : (Cond.selects C y y).before a0 Z = true) (wst : (Cond.instanceMethod y).before a0 Z = true) (wi : (Cond.initialized y.cls).before a0 Z = true) (wc : (Cond.code y bytes maxL ret).before a0 Z = true) (hy : y.cls ≠ "java/lang/invoke/MethodHandle" ∧ y.cls ≠ "java/lang/invoke/VarHandle")
    (hM : MetFree l y (head1 [Cond.code y bytes maxL ret] rm) (fun b U => b = (.ref a :: argsL).toArray ∧ Z.Warmed39 U.vm ∧ U.heap = h) (fun _ _ _ _ _ => True) (fun _ U o U' => ∃ w L, o = .returned w ∧ Q w U'.heap L ∧ FrameEnd U o U' L rm.cells rm.slots))
    (hf : rm.frames + 1 ≤ R.frames) (hl : W + (maxL + 11) + rm.locals ≤ R.locals) (hcells : cells + rm.cells ≤ R.cells) (hslots : slots + rm.slots ≤ R.slots)
    {g : JFrame} (hg : g.method = m) (hsize : g.locals.size = c.maxLocals) (hlen : ∀ sig, parseMethodDescriptor y.desc = some sig → argsL.length = sig.parameters.length) (hstack : g.stack = argsL.reverse ++ .ref a :: rest) (hW : 2 * g.monitorRoom + (rest.map fun v => v.category).sum ≤ W) (hdg : decode c.code g.pc = .ok (.invokevirtual index, 3)) :
    ∃ w T' L, Q w T'.heap L ∧ Stand p l e R s m args below meth c T' (locs ++ L) (cells + rm.cells) (slots + rm.slots) ∧ ∀ t, Steps p.tables e below (T'.setTop { g with pc := g.pc + 3, stack := w.toList ++ rest }) t → Steps p.tables e below (T.setTop g) t := by
  have hB := backOf (R := R) (p := p) (e := e) (below := below) (args := args) (len := 3) (W := W) (Q := Q) hM hZ wc wi hf hl
  obtain ⟨cq, kq, qa, qb, qc⟩ := isOf hZ eT E
  obtain ⟨w, vm₁, ⟨U, Lc, k1, n1⟩, -, X', ⟨L, hQ, hL, hC, hS⟩, st⟩ := X.virtualBack hx (y := y) (z := y) hown (mvT hZ wl) (mvT hZ wd) (notFace_of_selects (args := #[]) (mvT hZ ws)) (mvT hZ ws) (mvT hZ wst) hy hB qa qc (g := g) hg hsize (Steps.refl _) hlen hstack hW hdg (fun _ _ => ⟨rfl, eT, hcells, hslots⟩)
  dsimp only [Pt.U, Pt.locs, Pt.cells, Pt.slots] at X' hQ hL hC hS st
  subst hL hC hS
  exact ⟨w, U, L, hQ, X', fun t k => st.trans k⟩
/-- a private method, by invokevirtual -/
theorem own_priv {Z : State} {a0 : Array Value} {h : Heap} (X : Stand p l e R s m args below meth c T locs cells slots) (hx : p.tables.exec = Jvm.exec) (hZ : Z.Warmed39 s.vm) (eT : T.heap = h) {own C : String} {index kI : Nat} {y : MethodName} {bytes : ByteArray} {maxL : Nat} {ret : Option FieldType} {rm : Room} {W : Nat} {a : Addr} {argsL rest : List Value} {Q : Option Value → Heap → List Loc → Prop}
    (E : Exa Z h a C) (hown : s.vm.findClass own = some m.cls) (wl : (Cond.methodLink own index y).before a0 Z = true) (wp : (Cond.privateMethod y).before a0 Z = true) (wI : (Cond.instantiable y.cls kI).before a0 Z = true) (wst : (Cond.instanceMethod y).before a0 Z = true) (wi : (Cond.initialized y.cls).before a0 Z = true) (wc : (Cond.code y bytes maxL ret).before a0 Z = true) (hy : y.cls ≠ "java/lang/invoke/MethodHandle" ∧ y.cls ≠ "java/lang/invoke/VarHandle")
    (hM : MetFree l y (head1 [Cond.code y bytes maxL ret] rm) (fun b U => b = (.ref a :: argsL).toArray ∧ Z.Warmed39 U.vm ∧ U.heap = h) (fun _ _ _ _ _ => True) (fun _ U o U' => ∃ w L, o = .returned w ∧ Q w U'.heap L ∧ FrameEnd U o U' L rm.cells rm.slots))
    (hf : rm.frames + 1 ≤ R.frames) (hl : W + (maxL + 11) + rm.locals ≤ R.locals) (hcells : cells + rm.cells ≤ R.cells) (hslots : slots + rm.slots ≤ R.slots)
    {g : JFrame} (hg : g.method = m) (hsize : g.locals.size = c.maxLocals) (hlen : ∀ sig, parseMethodDescriptor y.desc = some sig → argsL.length = sig.parameters.length) (hstack : g.stack = argsL.reverse ++ .ref a :: rest) (hW : 2 * g.monitorRoom + (rest.map fun v => v.category).sum ≤ W) (hdg : decode c.code g.pc = .ok (.invokevirtual index, 3)) :
    ∃ w T' L, Q w T'.heap L ∧ Stand p l e R s m args below meth c T' (locs ++ L) (cells + rm.cells) (slots + rm.slots) ∧ ∀ t, Steps p.tables e below (T'.setTop { g with pc := g.pc + 3, stack := w.toList ++ rest }) t → Steps p.tables e below (T.setTop g) t := by
  have hB := backOf (R := R) (p := p) (e := e) (below := below) (args := args) (len := 3) (W := W) (Q := Q) hM hZ wc wi hf hl
  obtain ⟨cl, hcl, hob⟩ := E.cell
  obtain ⟨cI, kk, i1, i2, -, i4, -, -⟩ := Cond.instantiable_spec (mvT (args := args) hZ wI)
  have hni : kk.isInterface = false := by
    rcases Bool.eq_false_or_eq_true kk.isInterface with q | q
    · rw [q] at i4; cases i4
    · exact q
  have hpv := Cond.privateMethod_at (mvP (args := args) hZ wp)
  have hsel := selects_self_of_private (args := args) i1 i2 hni hpv (mvT hZ wst) hy
  obtain ⟨w, vm₁, ⟨U, Lc, k1, n1⟩, -, X', ⟨L, hQ, hL, hC, hS⟩, st⟩ := X.privateBack hx (y := y) hown (mvT hZ wl) (mvT hZ wst) hsel hpv (mvT hZ wc) hy hB (g := g) hg hsize (Steps.refl _) (a := a) (cell := cl) (by rw [eT]; exact hcl) hob hlen hstack hW hdg (fun _ _ => ⟨rfl, eT, hcells, hslots⟩)
  dsimp only [Pt.U, Pt.locs, Pt.cells, Pt.slots] at X' hQ hL hC hS st
  subst hL hC hS
  exact ⟨w, U, L, hQ, X', fun t k => st.trans k⟩
/-- a call that left nothing behind -/
theorem own_clean {h : Heap} {w v : Option Value} {T' : State} {L : List Loc} {k0 n0 : Nat} (q : w = v ∧ L = [] ∧ T'.heap = h) (X : Stand p l e R s m args below meth c T' (locs ++ L) (cells + k0) (slots + n0)) (hk : k0 = 0) (hn : n0 = 0) : T'.heap = h ∧ Stand p l e R s m args below meth c T' locs cells slots := by
  obtain ⟨-, rfl, hh⟩ := q
  subst hk hn
  rw [List.append_nil] at X
  exact ⟨hh, X⟩
theorem own_nin {a b : Addr} (q : b ≠ a) : b ∉ [a] := fun h => q (List.mem_singleton.mp h)
theorem own_kt {h0 : Heap} {ws : List Addr} {a : Addr} (q : a ∈ ws ∨ h0.size ≤ a) : ∀ x ∈ [a], x ∈ ws ∨ h0.size ≤ x := fun x hx => by
  cases List.mem_singleton.mp hx; exact q
end New
end Jvm.RoadKit
namespace Jvm.RoadKit
open Sem ClassFile Op Lib Jvm.Stand Jvm.Free Jvm.LawKit
section Arrays
variable {p : Program} {l : Launch} {e : Env} {R : Room} {s : State} {m : MethodId} {args : Array Value} {below : List Frame} {meth : Method} {c : Code} {T : State} {locs : List Loc} {cells slots : Nat} {Z : State} {a0 : Array Value} {h h' : Heap} {a b : Addr} {ty : FieldType} {n : Nat} {f : Nat → Value}
/-- an array of n places; place i holds f i -/
def own_Ar (Z : State) (h : Heap) (a : Addr) (ty : FieldType) (n : Nat) (f : Nat → Value) : Prop := ∃ c : Cell, Arr Z h a c ty ∧ c.slots.size = n ∧ ∀ i, i < n → c.slots[i]? = some (f i)
theorem own_Ar.lt (F : own_Ar Z h a ty n f) : a < h.size := by obtain ⟨c, A, -⟩ := F; exact A.lt
theorem own_Ar.ext (F : own_Ar Z h a ty n f) (E : Ext h h') : own_Ar Z h' a ty n f := by obtain ⟨c, A, r⟩ := F; exact ⟨c, A.ext E, r⟩
theorem own_Ar.keep {ws : List Addr} (F : own_Ar Z h a ty n f) (K : Keep h h' ws) (q : a ∉ ws) : own_Ar Z h' a ty n f := by obtain ⟨c, A, r⟩ := F; exact ⟨c, ⟨K.2.1 a c A.1 q, A.2⟩, r⟩
theorem own_Ar.other {sl : Nat} {v : Value} (F : own_Ar Z h b ty n f) (W : Wr h h' a sl v) (q : b ≠ a) : own_Ar Z h' b ty n f := by obtain ⟨c, A, r⟩ := F; exact ⟨c, A.other W q, r⟩
theorem own_Ar.set {i : Nat} {v : Value} (F : own_Ar Z h a ty n f) (W : Wr h h' a i v) : own_Ar Z h' a ty n (fun j => if j = i then v else f j) := by
  obtain ⟨c, A, S, H⟩ := F
  refine ⟨c.setSlot i v, A.same W, by rw [sz_set]; exact S, fun j hj => ?_⟩
  show (c.slots.setIfInBounds i v)[j]? = some (if j = i then v else f j)
  rw [Array.getElem?_setIfInBounds]
  by_cases q : i = j
  · subst q
    rw [if_pos rfl, if_pos rfl, if_pos (by rw [S]; exact hj)]
  · rw [if_neg q, if_neg (Ne.symm q)]
    exact H j hj
theorem own_Ar.new {k : ClassId} {z : Int32} (A : Arr Z h a (newA k ty z) ty) : own_Ar Z h a ty z.toNatClampNeg (fun _ => defaultValue ty) := ⟨_, A, sz_new _ _ _, fun i hi => by simp [newA, hi]⟩
theorem own_Ar.congr {f' : Nat → Value} (F : own_Ar Z h a ty n f) (q : ∀ i, i < n → f i = f' i) : own_Ar Z h a ty n f' := by
  obtain ⟨c, A, S, H⟩ := F
  exact ⟨c, A, S, fun i hi => by rw [← q i hi]; exact H i hi⟩
theorem own_idx {j : Int32} {i : Nat} (hj : j.toInt = i) : j.toNatClampNeg = i := by
  show j.toInt.toNat = i
  omega
theorem own_in {j : Int32} {i n : Nat} (hj : j.toInt = i) (hi : i < n) : ¬ (j < 0 ∨ n ≤ j.toNatClampNeg) := by
  rw [own_idx hj, Int32.lt_iff_toInt_lt, Int32.toInt_zero]
  omega
theorem own_alen (X : Stand p l e R s m args below meth c T locs cells slots) (hx : p.tables.exec = Jvm.exec) (hZ : Z.Warmed39 s.vm) (eT : T.heap = h) (F : own_Ar Z h a ty n f) {z : Int32} (hz : n.toInt32 = z)
    {g : JFrame} (hg : g.method = m) {rest : List Value} (hs : g.stack = .ref a :: rest) (hd : decode c.code g.pc = .ok (.arraylength, 1)) : ∀ t, Steps p.tables e below (T.setTop { g with pc := g.pc + 1, stack := .int z :: rest }) t → Steps p.tables e below (T.setTop g) t := by
  obtain ⟨cl, A, S, H⟩ := F
  subst hz
  intro t k
  refine X.arraylength hx (cell := cl) (by rw [eT]; exact A.1) (State.isArrayOf_alike hZ.alike A.2.1) hg hs hd t ?_
  rw [S]
  exact k
theorem own_iald (X : Stand p l e R s m args below meth c T locs cells slots) (hx : p.tables.exec = Jvm.exec) (hZ : Z.Warmed39 s.vm) (eT : T.heap = h) (F : own_Ar Z h a .int n f) {j : Int32} {i : Nat} {v : Value} (hj : j.toInt = i) (hi : i < n) (hv : f i = v)
    {g : JFrame} (hg : g.method = m) {rest : List Value} (hs : g.stack = .int j :: .ref a :: rest) (hd : decode c.code g.pc = .ok (.iaload, 1)) : ∀ t, Steps p.tables e below (T.setTop { g with pc := g.pc + 1, stack := v :: rest }) t → Steps p.tables e below (T.setTop g) t := by
  obtain ⟨cl, A, S, H⟩ := F
  subst hv
  exact X.iaload hx (by rw [eT]; exact A.1) (State.isArrayOf_alike hZ.alike A.2.1) A.2.2 (by rw [S]; exact own_in hj hi) (by rw [own_idx hj]; exact H i hi) hg hs hd
theorem own_lald (X : Stand p l e R s m args below meth c T locs cells slots) (hx : p.tables.exec = Jvm.exec) (hZ : Z.Warmed39 s.vm) (eT : T.heap = h) (F : own_Ar Z h a .long n f) {j : Int32} {i : Nat} {v : Value} (hj : j.toInt = i) (hi : i < n) (hv : f i = v)
    {g : JFrame} (hg : g.method = m) {rest : List Value} (hs : g.stack = .int j :: .ref a :: rest) (hd : decode c.code g.pc = .ok (.laload, 1)) : ∀ t, Steps p.tables e below (T.setTop { g with pc := g.pc + 1, stack := v :: rest }) t → Steps p.tables e below (T.setTop g) t := by
  obtain ⟨cl, A, S, H⟩ := F
  subst hv
  exact X.laload hx (by rw [eT]; exact A.1) (State.isArrayOf_alike hZ.alike A.2.1) A.2.2 (by rw [S]; exact own_in hj hi) (by rw [own_idx hj]; exact H i hi) hg hs hd
theorem own_bald (X : Stand p l e R s m args below meth c T locs cells slots) (hx : p.tables.exec = Jvm.exec) (hZ : Z.Warmed39 s.vm) (eT : T.heap = h) (F : own_Ar Z h a .byte n f) {j : Int32} {i : Nat} {v : Value} (hj : j.toInt = i) (hi : i < n) (hv : f i = v)
    {g : JFrame} (hg : g.method = m) {rest : List Value} (hs : g.stack = .int j :: .ref a :: rest) (hd : decode c.code g.pc = .ok (.baload, 1)) : ∀ t, Steps p.tables e below (T.setTop { g with pc := g.pc + 1, stack := v :: rest }) t → Steps p.tables e below (T.setTop g) t := by
  obtain ⟨cl, A, S, H⟩ := F
  subst hv
  exact X.baloadBytes hx (by rw [eT]; exact A.1) (State.isArrayOf_alike hZ.alike A.2.1) A.2.2 (by rw [S]; exact own_in hj hi) (by rw [own_idx hj]; exact H i hi) hg hs hd
theorem own_zald (X : Stand p l e R s m args below meth c T locs cells slots) (hx : p.tables.exec = Jvm.exec) (hZ : Z.Warmed39 s.vm) (eT : T.heap = h) (F : own_Ar Z h a .boolean n f) {j : Int32} {i : Nat} {v : Value} (hj : j.toInt = i) (hi : i < n) (hv : f i = v)
    {g : JFrame} (hg : g.method = m) {rest : List Value} (hs : g.stack = .int j :: .ref a :: rest) (hd : decode c.code g.pc = .ok (.baload, 1)) : ∀ t, Steps p.tables e below (T.setTop { g with pc := g.pc + 1, stack := v :: rest }) t → Steps p.tables e below (T.setTop g) t := by
  obtain ⟨cl, A, S, H⟩ := F
  subst hv
  exact X.baloadBooleans hx (by rw [eT]; exact A.1) (State.isArrayOf_alike hZ.alike A.2.1) A.2.2 (by rw [S]; exact own_in hj hi) (by rw [own_idx hj]; exact H i hi) hg hs hd
theorem own_iast (X : Stand p l e R s m args below meth c T locs cells slots) (hx : p.tables.exec = Jvm.exec) (hZ : Z.Warmed39 s.vm) (eT : T.heap = h) (F : own_Ar Z h a .int n f) {j x : Int32} {i : Nat} (hj : j.toInt = i) (hi : i < n)
    {g : JFrame} (hg : g.method = m) {rest : List Value} (hs : g.stack = .int x :: .int j :: .ref a :: rest) (hd : decode c.code g.pc = .ok (.iastore, 1)) :
    ∃ T' h', Stand p l e R s m args below meth c T' (locs ++ [⟨a, i⟩]) cells slots ∧ T'.heap = h' ∧ Wr h h' a i (.int x) ∧ ∀ t, Steps p.tables e below (T'.setTop { g with pc := g.pc + 1, stack := rest }) t → Steps p.tables e below (T.setTop g) t := by
  obtain ⟨cl, A, S, H⟩ := F
  have r := stI X hx hZ eT A (j := j) (by rw [S]; exact own_in hj hi) hg hs hd
  rw [own_idx hj] at r
  exact r
theorem own_last (X : Stand p l e R s m args below meth c T locs cells slots) (hx : p.tables.exec = Jvm.exec) (hZ : Z.Warmed39 s.vm) (eT : T.heap = h) (F : own_Ar Z h a .long n f) {j : Int32} {x : Int64} {i : Nat} (hj : j.toInt = i) (hi : i < n)
    {g : JFrame} (hg : g.method = m) {rest : List Value} (hs : g.stack = .long x :: .int j :: .ref a :: rest) (hd : decode c.code g.pc = .ok (.lastore, 1)) :
    ∃ T' h', Stand p l e R s m args below meth c T' (locs ++ [⟨a, i⟩]) cells slots ∧ T'.heap = h' ∧ Wr h h' a i (.long x) ∧ ∀ t, Steps p.tables e below (T'.setTop { g with pc := g.pc + 1, stack := rest }) t → Steps p.tables e below (T.setTop g) t := by
  obtain ⟨cl, A, S, H⟩ := F
  have r := stJ X hx hZ eT A (j := j) (by rw [S]; exact own_in hj hi) hg hs hd
  rw [own_idx hj] at r
  exact r
theorem own_bast (X : Stand p l e R s m args below meth c T locs cells slots) (hx : p.tables.exec = Jvm.exec) (hZ : Z.Warmed39 s.vm) (eT : T.heap = h) (F : own_Ar Z h a .byte n f) {j x : Int32} {i : Nat} (hj : j.toInt = i) (hi : i < n)
    {g : JFrame} (hg : g.method = m) {rest : List Value} (hs : g.stack = .int x :: .int j :: .ref a :: rest) (hd : decode c.code g.pc = .ok (.bastore, 1)) :
    ∃ T' h', Stand p l e R s m args below meth c T' (locs ++ [⟨a, i⟩]) cells slots ∧ T'.heap = h' ∧ Wr h h' a i (.int (nar .byte x)) ∧ ∀ t, Steps p.tables e below (T'.setTop { g with pc := g.pc + 1, stack := rest }) t → Steps p.tables e below (T.setTop g) t := by
  obtain ⟨cl, A, S, H⟩ := F
  have r := stB X hx hZ eT A (j := j) (x := x) (by rw [S]; exact own_in hj hi) hg hs hd
  rw [own_idx hj] at r
  exact r
theorem own_zast (X : Stand p l e R s m args below meth c T locs cells slots) (hx : p.tables.exec = Jvm.exec) (hZ : Z.Warmed39 s.vm) (eT : T.heap = h) (F : own_Ar Z h a .boolean n f) {j x : Int32} {i : Nat} (hj : j.toInt = i) (hi : i < n)
    {g : JFrame} (hg : g.method = m) {rest : List Value} (hs : g.stack = .int x :: .int j :: .ref a :: rest) (hd : decode c.code g.pc = .ok (.bastore, 1)) :
    ∃ T' h', Stand p l e R s m args below meth c T' (locs ++ [⟨a, i⟩]) cells slots ∧ T'.heap = h' ∧ Wr h h' a i (.int (nar .boolean x)) ∧ ∀ t, Steps p.tables e below (T'.setTop { g with pc := g.pc + 1, stack := rest }) t → Steps p.tables e below (T.setTop g) t := by
  obtain ⟨cl, A, S, H⟩ := F
  have r := stZ X hx hZ eT A (j := j) (x := x) (by rw [S]; exact own_in hj hi) hg hs hd
  rw [own_idx hj] at r
  exact r
end Arrays
end Jvm.RoadKit
namespace Jvm.RoadKit
open Sem ClassFile Op Lib Jvm.Stand Jvm.Free Jvm.LawKit
section ArraysX
variable {p : Program} {l : Launch} {e : Env} {R : Room} {s : State} {m : MethodId} {args : Array Value} {below : List Frame} {meth : Method} {c : Code} {T : State} {locs : List Loc} {cells slots : Nat} {Z : State} {a0 : Array Value} {h h' : Heap} {a b : Addr} {ty : FieldType} {n : Nat} {f : Nat → Value}
/-- an int array of n places of which nothing else is said -/
def own_AI (Z : State) (h : Heap) (a : Addr) (n : Nat) : Prop := ∃ g : Nat → Int32, own_Ar Z h a .int n (fun i => .int (g i))
theorem own_AI.lt (F : own_AI Z h a n) : a < h.size := by obtain ⟨g, F⟩ := F; exact F.lt
theorem own_AI.ext (F : own_AI Z h a n) (E : Ext h h') : own_AI Z h' a n := by obtain ⟨g, F⟩ := F; exact ⟨g, F.ext E⟩
theorem own_AI.keep {ws : List Addr} (F : own_AI Z h a n) (K : Keep h h' ws) (q : a ∉ ws) : own_AI Z h' a n := by obtain ⟨g, F⟩ := F; exact ⟨g, F.keep K q⟩
theorem own_AI.other {sl : Nat} {v : Value} (F : own_AI Z h b n) (W : Wr h h' a sl v) (q : b ≠ a) : own_AI Z h' b n := by obtain ⟨g, F⟩ := F; exact ⟨g, F.other W q⟩
theorem own_AI.set {i : Nat} {v : Int32} (F : own_AI Z h a n) (W : Wr h h' a i (.int v)) : own_AI Z h' a n := by
  obtain ⟨g, F⟩ := F
  exact ⟨fun j => if j = i then v else g j, (F.set W).congr fun j _ => (apply_ite Value.int _ _ _).symm⟩
theorem own_AI.new {k : ClassId} {z : Int32} (A : Arr Z h a (newA k .int z) .int) : own_AI Z h a z.toNatClampNeg := ⟨fun _ => 0, own_Ar.new A⟩
end ArraysX
end Jvm.RoadKit
namespace Jvm.Pilot.@@N@@
open Jvm Jvm.ClassFile Sem Op Lib Jvm.Free Jvm.Stand Jvm.LawKit Jvm.RoadKit Bundle Jvm.Pilot.@@N@@.Jvm.D
theorem own_at {a0 : Array Value} {Z : State} (hw : ∀ d ∈ tables_1, d.before a0 Z = true) (i : Nat) {d : Jvm.Cond} (h : tables_1[i]? = some d) : d.before a0 Z = true := hw _ (List.mem_of_getElem? h)
/-! plain facts on ints and longs -/
theorem own_char16 (u : UInt16) : (u.toUInt32.toInt32).toInt = u.toNat := by
  have h := u.toNat_lt
  show BitVec.toInt u.toUInt32.toBitVec = _
  rw [BitVec.toInt_eq_toNat_of_lt (by simp; omega)]
  simp
theorem own_char (y : Int32) : 0 ≤ (y.toUInt32.toUInt16.toUInt32.toInt32).toInt ∧ (y.toUInt32.toUInt16.toUInt32.toInt32).toInt < 65536 := by
  rw [own_char16]
  have h := y.toUInt32.toUInt16.toNat_lt
  omega
theorem own_fin32 {P : Int32 → Prop} (n : Nat) (h : ∀ k : Fin n, P (Int32.ofNat k)) (c : Int32) (h0 : 0 ≤ c.toInt) (h1 : c.toInt < n) : P c := by
  have e : c = Int32.ofNat c.toInt.toNat := by
    apply Int32.toInt_inj.mp
    have hb := c.toInt_lt
    rw [Int32.toInt_ofNat_of_lt (by omega)]
    omega
  rw [e]
  exact h ⟨c.toInt.toNat, by omega⟩
theorem own_lt32 (x y : Int32) : (x < y) ↔ x.toInt < y.toInt := Int32.lt_iff_toInt_lt
theorem own_eq32 (x y : Int32) : (x = y) ↔ x.toInt = y.toInt := Int32.toInt_inj.symm
theorem own_lt64 (x y : Int64) : (x < y) ↔ x.toInt < y.toInt := Int64.lt_iff_toInt_lt
theorem own_eq64 (x y : Int64) : (x = y) ↔ x.toInt = y.toInt := Int64.toInt_inj.symm

def own_chr (b : Int32) : Int32 := nar .char ((b &&& (255 : Int32)).toUInt32.toUInt16.toUInt32.toInt32)
theorem own_q0 {x : Int32} {ii : Nat} (h : x.toInt = (ii : Nat)) : ¬ x < (0 : Int32) := by
  rw [own_lt32, Int32.toInt_zero]
  omega
theorem own_q1 {x : Int32} {ii : Nat} (h : x.toInt = (ii : Nat)) (q : ii < 16) : x < (16 : Int32) := by
  have z : (16 : Int32).toInt = 16 := rfl
  rw [own_lt32, z]
  omega
def own_lo (i : Nat) : Int32 := if i < 10 then Int32.ofNat (48 + i) else Int32.ofNat (87 + i)
def own_up (i : Nat) : Int32 := if i < 10 then Int32.ofNat (48 + i) else Int32.ofNat (55 + i)
def own_cl (x : Int32) : Int32 := nar .char (own_chr (own_lo x.toInt.toNat))
def own_cu (x : Int32) : Int32 := nar .char (own_chr (own_up x.toInt.toNat))

theorem d6_0 : decode jdk_41_method_11_code 0 = .ok (.iload_n 0, 1) := by decide +kernel
theorem d6_1 : decode jdk_41_method_11_code 1 = .ok (.ifCond .lt 8, 3) := by decide +kernel
theorem d6_4 : decode jdk_41_method_11_code 4 = .ok (.iload_n 0, 1) := by decide +kernel
theorem d6_5 : decode jdk_41_method_11_code 5 = .ok (.iload_n 1, 1) := by decide +kernel
theorem d6_6 : decode jdk_41_method_11_code 6 = .ok (.if_icmp .lt 10, 3) := by decide +kernel
theorem d6_9 : decode jdk_41_method_11_code 9 = .ok (.aload_n 2, 1) := by decide +kernel
theorem d6_10 : decode jdk_41_method_11_code 10 = .ok (.iload_n 0, 1) := by decide +kernel
theorem d6_11 : decode jdk_41_method_11_code 11 = .ok (.iload_n 1, 1) := by decide +kernel
theorem d6_12 : decode jdk_41_method_11_code 12 = .ok (.invokestatic 95, 3) := by decide +kernel
theorem d6_15 : decode jdk_41_method_11_code 15 = .ok (.athrow, 1) := by decide +kernel
theorem d6_16 : decode jdk_41_method_11_code 16 = .ok (.iload_n 0, 1) := by decide +kernel
theorem d6_17 : decode jdk_41_method_11_code 17 = .ok (.ireturn, 1) := by decide +kernel
theorem pn_6 : plainName "jdk/internal/util/Preconditions" = true := by first | (simp [plainName, overriddenIn]; done) | decide +kernel
theorem pd_6 : parseMethodDescriptor "(IILjava/util/function/BiFunction;)I" = some ⟨[.int, .int, (.object "java/util/function/BiFunction")], (some .int)⟩ := by decide +kernel
theorem ef_6 (m : MethodId) (x0 : Int32) (x1 : Int32) (G3 : Value) (rG3 : G3.isRef = true) : entryFrame m #[(.int x0), (.int x1), G3] 3 = mkF m 0 #[.val (.int x0), .val (.int x1), .val G3] [] := by cases G3 <;> first | rfl | cases rG3
def own_F6 (Z : State) (x0 : Int32) (x1 : Int32) (G3 : Value) (n0 : Nat) (h0 : Heap) (v : Option Value) (h : Heap) (L : List Loc) : Prop := v = some (.int x0) ∧ L = [] ∧ h = h0
set_option maxRecDepth 65536 in
set_option maxHeartbeats 40000000 in
theorem own_m6 (l : Launch) (Z : State) (a0 : Array Value) (hw : ∀ d ∈ tables_1, d.before a0 Z = true) (ws : List Jvm.Cond) (x0 : Int32) (x1 : Int32) (G3 : Value) (n0 : Nat) (h0 : Heap)  (rG3 : G3.isRef = true) (q0 : ¬ x0 < (0 : Int32)) (q1 : x0 < x1) :
    MetFree l (⟨"jdk/internal/util/Preconditions", "checkIndex", "(IILjava/util/function/BiFunction;)I"⟩ : MethodName) (head1 (Jvm.Cond.code (⟨"jdk/internal/util/Preconditions", "checkIndex", "(IILjava/util/function/BiFunction;)I"⟩ : MethodName) jdk_41_method_11_code 3 (some .int) :: ws) ({ frames := 0, cells := 0, slots := 0, locals := 0 } : Room)) (fun a U => a = #[(.int x0), (.int x1), G3] ∧ Z.Warmed39 U.vm ∧ U.heap = h0) (fun _ _ _ _ _ => True) (fun _ U o U' => ∃ v L, o = .returned v ∧ own_F6 Z x0 x1 G3 n0 h0 v U'.heap L ∧ FrameEnd U o U' L ({ frames := 0, cells := 0, slots := 0, locals := 0 } : Room).cells ({ frames := 0, cells := 0, slots := 0, locals := 0 } : Room).slots) := by
  refine MetFree.of_bodySF (plainFor_of_name pn_6) hisR ?_
  intro p e s m args below meth c s₁ Bd hml0 hP hK
  obtain ⟨rfl, hZ, hh⟩ := hP
  have hx := Bd.exec
  have hby := Bd.bytes
  have hml : c.maxLocals = 3 := hml0
  have hown : s.vm.findClass "jdk/internal/util/Preconditions" = some m.cls := findClass_of_methodNamed Bd.named
  have hnm := (name_of_methodNamed Bd.named Bd.method).1
  have X0 : Stand p l e ({ frames := 0, cells := 0, slots := 0, locals := 0 } : Room) s m #[(.int x0), (.int x1), G3] below meth c s₁ [] 0 0 := Stand.of_body Bd
  have e0 : s₁.heap = h0 := by rw [← hh, Bd.state]; rfl
  have N0 := Fr.nil n0
  have K0 : Keep h0 h0 [] := Keep.refl h0 []
  have hgo : own_Goes p e below s (own_F6 Z x0 x1 G3 n0 h0) 0 0 (s₁.setTop (mkF m 0 #[.val (.int x0), .val (.int x1), .val G3] [])) := by
    refine own_Goes.step (fun tq kq => XS.iloadN X0.here hx rfl (hb hby d6_0) rfl kq) ?_
    show own_Goes _ _ _ _ _ _ _ (s₁.setTop (mkF m 1 #[.val (.int x0), .val (.int x1), .val G3] [(.int x0)]))
    refine own_Goes.step (fun tq kq => XS.ifNo X0.here hx rfl (hb hby d6_1) rfl (XT.i0_lt_f (q0)) kq) ?_
    show own_Goes _ _ _ _ _ _ _ (s₁.setTop (mkF m 4 #[.val (.int x0), .val (.int x1), .val G3] []))
    refine own_Goes.step (fun tq kq => XS.iloadN X0.here hx rfl (hb hby d6_4) rfl kq) ?_
    show own_Goes _ _ _ _ _ _ _ (s₁.setTop (mkF m 5 #[.val (.int x0), .val (.int x1), .val G3] [(.int x0)]))
    refine own_Goes.step (fun tq kq => XS.iloadN X0.here hx rfl (hb hby d6_5) rfl kq) ?_
    show own_Goes _ _ _ _ _ _ _ (s₁.setTop (mkF m 6 #[.val (.int x0), .val (.int x1), .val G3] [(.int x1), (.int x0)]))
    refine own_Goes.step (fun tq kq => XS.icmpYes X0.here hx rfl (pc0 := 6) (pc' := 16) rfl (hb hby d6_6) rfl (XT.ii_lt_t (q1)) (by decide) (by decide) kq) ?_
    show own_Goes _ _ _ _ _ _ _ (s₁.setTop (mkF m 16 #[.val (.int x0), .val (.int x1), .val G3] []))
    refine own_Goes.step (fun tq kq => XS.iloadN X0.here hx rfl (hb hby d6_16) rfl kq) ?_
    show own_Goes _ _ _ _ _ _ _ (s₁.setTop (mkF m 17 #[.val (.int x0), .val (.int x1), .val G3] [(.int x0)]))
    refine own_endI X0 hx Bd.notSynchronized Bd.returns (hb hby d6_17) ?_ (by decide) (by decide)
    show own_F6 Z x0 x1 G3 n0 h0 _ s₁.heap _
    rw [e0]
    exact ⟨rfl, rfl, rfl⟩
  obtain ⟨t2, o2, q1, q2, q3, q4⟩ := hgo
  exact ⟨t2, o2, castTop (ef_6 m x0 x1 G3 rG3) q1, q2, q3, q4⟩
theorem d5_0 : decode jdk_42_method_155_code 0 = .ok (.iload_n 0, 1) := by decide +kernel
theorem d5_1 : decode jdk_42_method_155_code 1 = .ok (.iload_n 1, 1) := by decide +kernel
theorem d5_2 : decode jdk_42_method_155_code 2 = .ok (.getstatic 1053, 3) := by decide +kernel
theorem d5_5 : decode jdk_42_method_155_code 5 = .ok (.invokestatic 1059, 3) := by decide +kernel
theorem d5_8 : decode jdk_42_method_155_code 8 = .ok (.pop, 1) := by decide +kernel
theorem d5_9 : decode jdk_42_method_155_code 9 = .ok (.return_, 1) := by decide +kernel
theorem pn_5 : plainName "java/lang/String" = true := by first | (simp [plainName, overriddenIn]; done) | decide +kernel
theorem pd_5 : parseMethodDescriptor "(II)V" = some ⟨[.int, .int], none⟩ := by decide +kernel
theorem ef_5 (m : MethodId) (x0 : Int32) (x1 : Int32) : entryFrame m #[(.int x0), (.int x1)] 2 = mkF m 0 #[.val (.int x0), .val (.int x1)] [] := by first | (simp [entryFrame, mkF, argsToLocals, Value.category]; done) | rfl
def own_F5 (Z : State) (x0 : Int32) (x1 : Int32) (G3 : Value) (n0 : Nat) (h0 : Heap) (v : Option Value) (h : Heap) (L : List Loc) : Prop := v = none ∧ L = [] ∧ h = h0
set_option maxRecDepth 65536 in
set_option maxHeartbeats 40000000 in
theorem own_m5 (l : Launch) (Z : State) (a0 : Array Value) (hw : ∀ d ∈ tables_1, d.before a0 Z = true) (ws : List Jvm.Cond) (x0 : Int32) (x1 : Int32) (G3 : Value) (n0 : Nat) (h0 : Heap)  (O4 : Sta Z h0 "jdk/internal/util/Preconditions" "SIOOBE_FORMATTER" "Ljava/util/function/BiFunction;" G3) (rG3 : G3.isRef = true) (q0 : ¬ x0 < (0 : Int32)) (q1 : x0 < x1) :
    MetFree l (⟨"java/lang/String", "checkIndex", "(II)V"⟩ : MethodName) (head1 (Jvm.Cond.code (⟨"java/lang/String", "checkIndex", "(II)V"⟩ : MethodName) jdk_42_method_155_code 2 none :: ws) ({ frames := 1, cells := 0, slots := 0, locals := 14 } : Room)) (fun a U => a = #[(.int x0), (.int x1)] ∧ Z.Warmed39 U.vm ∧ U.heap = h0) (fun _ _ _ _ _ => True) (fun _ U o U' => ∃ v L, o = .returned v ∧ own_F5 Z x0 x1 G3 n0 h0 v U'.heap L ∧ FrameEnd U o U' L ({ frames := 1, cells := 0, slots := 0, locals := 14 } : Room).cells ({ frames := 1, cells := 0, slots := 0, locals := 14 } : Room).slots) := by
  refine MetFree.of_bodySF (plainFor_of_name pn_5) hisR ?_
  intro p e s m args below meth c s₁ Bd hml0 hP hK
  obtain ⟨rfl, hZ, hh⟩ := hP
  have hx := Bd.exec
  have hby := Bd.bytes
  have hml : c.maxLocals = 2 := hml0
  have hown : s.vm.findClass "java/lang/String" = some m.cls := findClass_of_methodNamed Bd.named
  have hnm := (name_of_methodNamed Bd.named Bd.method).1
  have X0 : Stand p l e ({ frames := 1, cells := 0, slots := 0, locals := 14 } : Room) s m #[(.int x0), (.int x1)] below meth c s₁ [] 0 0 := Stand.of_body Bd
  have e0 : s₁.heap = h0 := by rw [← hh, Bd.state]; rfl
  have N0 := Fr.nil n0
  have K0 : Keep h0 h0 [] := Keep.refl h0 []
  have hgo : own_Goes p e below s (own_F5 Z x0 x1 G3 n0 h0) 0 0 (s₁.setTop (mkF m 0 #[.val (.int x0), .val (.int x1)] [])) := by
    refine own_Goes.step (fun tq kq => XS.iloadN X0.here hx rfl (hb hby d5_0) rfl kq) ?_
    show own_Goes _ _ _ _ _ _ _ (s₁.setTop (mkF m 1 #[.val (.int x0), .val (.int x1)] [(.int x0)]))
    refine own_Goes.step (fun tq kq => XS.iloadN X0.here hx rfl (hb hby d5_1) rfl kq) ?_
    show own_Goes _ _ _ _ _ _ _ (s₁.setTop (mkF m 2 #[.val (.int x0), .val (.int x1)] [(.int x1), (.int x0)]))
    obtain ⟨T1, X1, e1, st1⟩ := getS X0 hx hZ (host := "") hown (own_at hw 34 rfl) Via.refl e0 O4 (g := (mkF m 2 #[.val (.int x0), .val (.int x1)] [(.int x1), (.int x0)])) rfl (hb hby d5_2)
    refine own_Goes.step st1 ?_
    show own_Goes _ _ _ _ _ _ _ (T1.setTop (mkF m 5 #[.val (.int x0), .val (.int x1)] [G3, (.int x1), (.int x0)]))
    obtain ⟨w2, T2, L2, q2, Y2, st2⟩ := own_stat X1 hx hZ e1 hown (own_at hw 36 rfl) (own_at hw 37 rfl) (own_at hw 35 rfl) (own_at hw 38 rfl) (by decide) (own_m6 l Z a0 hw [] x0 x1 G3 n0 h0 rG3 q0 q1) (by decide) (W := 0) (by decide) (by decide) (by decide) (g := (mkF m 5 #[.val (.int x0), .val (.int x1)] [G3, (.int x1), (.int x0)])) rfl (by rw [hml]; rfl) (argsL := [(.int x0), (.int x1), G3]) (rest := []) (lenOf pd_6 rfl) rfl (by show 2 * 0 + _ ≤ _; exact Nat.le_of_eq rfl) (hb hby d5_5)
    obtain ⟨e2, X2⟩ := own_clean q2 Y2 rfl rfl
    obtain ⟨rfl, -, -⟩ := q2
    refine own_Goes.step st2 ?_
    show own_Goes _ _ _ _ _ _ _ (T2.setTop (mkF m 8 #[.val (.int x0), .val (.int x1)] [(.int x0)]))
    refine own_Goes.step (fun tq kq => XT.pop X2.here hx rfl (hb hby d5_8) rfl rfl kq) ?_
    show own_Goes _ _ _ _ _ _ _ (T2.setTop (mkF m 9 #[.val (.int x0), .val (.int x1)] []))
    refine own_endV X2 hx Bd.notSynchronized Bd.returns (hb hby d5_9) ?_ (by decide) (by decide)
    show own_F5 Z x0 x1 G3 n0 h0 _ T2.heap _
    rw [e2]
    exact ⟨rfl, rfl, rfl⟩
  obtain ⟨t2, o2, q1, q2, q3, q4⟩ := hgo
  exact ⟨t2, o2, castTop (ef_5 m x0 x1 ) q1, q2, q3, q4⟩
theorem d4_0 : decode jdk_43_method_2_code 0 = .ok (.iload_n 1, 1) := by decide +kernel
theorem d4_1 : decode jdk_43_method_2_code 1 = .ok (.aload_n 0, 1) := by decide +kernel
theorem d4_2 : decode jdk_43_method_2_code 2 = .ok (.arraylength, 1) := by decide +kernel
theorem d4_3 : decode jdk_43_method_2_code 3 = .ok (.invokestatic 9, 3) := by decide +kernel
theorem d4_6 : decode jdk_43_method_2_code 6 = .ok (.aload_n 0, 1) := by decide +kernel
theorem d4_7 : decode jdk_43_method_2_code 7 = .ok (.iload_n 1, 1) := by decide +kernel
theorem d4_8 : decode jdk_43_method_2_code 8 = .ok (.baload, 1) := by decide +kernel
theorem d4_9 : decode jdk_43_method_2_code 9 = .ok (.sipush 255, 3) := by decide +kernel
theorem d4_12 : decode jdk_43_method_2_code 12 = .ok (.iand, 1) := by decide +kernel
theorem d4_13 : decode jdk_43_method_2_code 13 = .ok (.i2c, 1) := by decide +kernel
theorem d4_14 : decode jdk_43_method_2_code 14 = .ok (.ireturn, 1) := by decide +kernel
theorem pn_4 : plainName "java/lang/StringLatin1" = true := by first | (simp [plainName, overriddenIn]; done) | decide +kernel
theorem pd_4 : parseMethodDescriptor "([BI)C" = some ⟨[(.array .byte), .int], (some .char)⟩ := by decide +kernel
theorem ef_4 (m : MethodId) (x0 : Addr) (x1 : Int32) : entryFrame m #[(.ref x0), (.int x1)] 2 = mkF m 0 #[.val (.ref x0), .val (.int x1)] [] := by first | (simp [entryFrame, mkF, argsToLocals, Value.category]; done) | rfl
def own_F4 (Z : State) (x0 : Addr) (x1 : Int32) (G3 : Value) (B : Nat → Int32) (ii : Nat) (n0 : Nat) (h0 : Heap) (v : Option Value) (h : Heap) (L : List Loc) : Prop := v = some (.int (own_chr (B ii))) ∧ L = [] ∧ h = h0
set_option maxRecDepth 65536 in
set_option maxHeartbeats 40000000 in
theorem own_m4 (l : Launch) (Z : State) (a0 : Array Value) (hw : ∀ d ∈ tables_1, d.before a0 Z = true) (ws : List Jvm.Cond) (x0 : Addr) (x1 : Int32) (G3 : Value) (B : Nat → Int32) (ii : Nat) (n0 : Nat) (h0 : Heap)  (O4 : Sta Z h0 "jdk/internal/util/Preconditions" "SIOOBE_FORMATTER" "Ljava/util/function/BiFunction;" G3) (rG3 : G3.isRef = true) (RB : own_Ar Z h0 x0 .byte 16 (fun uu => .int (B uu))) (hi : x1.toInt = (ii : Nat)) (hii : ii < 16) :
    MetFree l (⟨"java/lang/StringLatin1", "charAt", "([BI)C"⟩ : MethodName) (head1 (Jvm.Cond.code (⟨"java/lang/StringLatin1", "charAt", "([BI)C"⟩ : MethodName) jdk_43_method_2_code 2 (some .char) :: ws) ({ frames := 2, cells := 0, slots := 0, locals := 27 } : Room)) (fun a U => a = #[(.ref x0), (.int x1)] ∧ Z.Warmed39 U.vm ∧ U.heap = h0) (fun _ _ _ _ _ => True) (fun _ U o U' => ∃ v L, o = .returned v ∧ own_F4 Z x0 x1 G3 B ii n0 h0 v U'.heap L ∧ FrameEnd U o U' L ({ frames := 2, cells := 0, slots := 0, locals := 27 } : Room).cells ({ frames := 2, cells := 0, slots := 0, locals := 27 } : Room).slots) := by
  refine MetFree.of_bodySF (plainFor_of_name pn_4) hisR ?_
  intro p e s m args below meth c s₁ Bd hml0 hP hK
  obtain ⟨rfl, hZ, hh⟩ := hP
  have hx := Bd.exec
  have hby := Bd.bytes
  have hml : c.maxLocals = 2 := hml0
  have hown : s.vm.findClass "java/lang/StringLatin1" = some m.cls := findClass_of_methodNamed Bd.named
  have hnm := (name_of_methodNamed Bd.named Bd.method).1
  have X0 : Stand p l e ({ frames := 2, cells := 0, slots := 0, locals := 27 } : Room) s m #[(.ref x0), (.int x1)] below meth c s₁ [] 0 0 := Stand.of_body Bd
  have e0 : s₁.heap = h0 := by rw [← hh, Bd.state]; rfl
  have N0 := Fr.nil n0
  have K0 : Keep h0 h0 [] := Keep.refl h0 []
  have hgo : own_Goes p e below s (own_F4 Z x0 x1 G3 B ii n0 h0) 0 0 (s₁.setTop (mkF m 0 #[.val (.ref x0), .val (.int x1)] [])) := by
    refine own_Goes.step (fun tq kq => XS.iloadN X0.here hx rfl (hb hby d4_0) rfl kq) ?_
    show own_Goes _ _ _ _ _ _ _ (s₁.setTop (mkF m 1 #[.val (.ref x0), .val (.int x1)] [(.int x1)]))
    refine own_Goes.step (fun tq kq => XS.aloadN X0.here hx rfl (hb hby d4_1) rfl rfl kq) ?_
    show own_Goes _ _ _ _ _ _ _ (s₁.setTop (mkF m 2 #[.val (.ref x0), .val (.int x1)] [(.ref x0), (.int x1)]))
    refine own_Goes.step (own_alen X0 hx hZ e0 RB (z := (16 : Int32)) (by decide) (g := (mkF m 2 #[.val (.ref x0), .val (.int x1)] [(.ref x0), (.int x1)])) rfl rfl (hb hby d4_2)) ?_
    show own_Goes _ _ _ _ _ _ _ (s₁.setTop (mkF m 3 #[.val (.ref x0), .val (.int x1)] [(.int (16 : Int32)), (.int x1)]))
    obtain ⟨w2, T2, L2, q2, Y2, st2⟩ := own_stat X0 hx hZ e0 hown (own_at hw 31 rfl) (own_at hw 32 rfl) (own_at hw 1 rfl) (own_at hw 33 rfl) (by decide) (own_m5 l Z a0 hw [] x1 (16 : Int32) G3 n0 h0 O4 rG3 (own_q0 hi) (own_q1 hi hii)) (by decide) (W := 0) (by decide) (by decide) (by decide) (g := (mkF m 3 #[.val (.ref x0), .val (.int x1)] [(.int (16 : Int32)), (.int x1)])) rfl (by rw [hml]; rfl) (argsL := [(.int x1), (.int (16 : Int32))]) (rest := []) (lenOf pd_5 rfl) rfl (by show 2 * 0 + _ ≤ _; exact Nat.le_of_eq rfl) (hb hby d4_3)
    obtain ⟨e2, X2⟩ := own_clean q2 Y2 rfl rfl
    obtain ⟨rfl, -, -⟩ := q2
    refine own_Goes.step st2 ?_
    show own_Goes _ _ _ _ _ _ _ (T2.setTop (mkF m 6 #[.val (.ref x0), .val (.int x1)] []))
    refine own_Goes.step (fun tq kq => XS.aloadN X2.here hx rfl (hb hby d4_6) rfl rfl kq) ?_
    show own_Goes _ _ _ _ _ _ _ (T2.setTop (mkF m 7 #[.val (.ref x0), .val (.int x1)] [(.ref x0)]))
    refine own_Goes.step (fun tq kq => XS.iloadN X2.here hx rfl (hb hby d4_7) rfl kq) ?_
    show own_Goes _ _ _ _ _ _ _ (T2.setTop (mkF m 8 #[.val (.ref x0), .val (.int x1)] [(.int x1), (.ref x0)]))
    refine own_Goes.step (own_bald X2 hx hZ e2 RB (i := ii) hi hii (v := (.int (B ii))) rfl (g := (mkF m 8 #[.val (.ref x0), .val (.int x1)] [(.int x1), (.ref x0)])) rfl rfl (hb hby d4_8)) ?_
    show own_Goes _ _ _ _ _ _ _ (T2.setTop (mkF m 9 #[.val (.ref x0), .val (.int x1)] [(.int (B ii))]))
    refine own_Goes.step (fun tq kq => XT.sipushV X2.here hx rfl (255 : Int32) (hb hby d4_9) (by decide) kq) ?_
    show own_Goes _ _ _ _ _ _ _ (T2.setTop (mkF m 12 #[.val (.ref x0), .val (.int x1)] [(.int (255 : Int32)), (.int (B ii))]))
    refine own_Goes.step (fun tq kq => XS.iand X2.here hx rfl (hb hby d4_12) rfl kq) ?_
    show own_Goes _ _ _ _ _ _ _ (T2.setTop (mkF m 13 #[.val (.ref x0), .val (.int x1)] [(.int ((B ii) &&& (255 : Int32)))]))
    refine own_Goes.step (fun tq kq => XT.i2c X2.here hx rfl (hb hby d4_13) rfl kq) ?_
    show own_Goes _ _ _ _ _ _ _ (T2.setTop (mkF m 14 #[.val (.ref x0), .val (.int x1)] [(.int (((B ii) &&& (255 : Int32)).toUInt32.toUInt16.toUInt32.toInt32))]))
    refine own_endN X2 hx Bd.notSynchronized (t := .char) Bd.returns (by simp) (hb hby d4_14) ?_ (by decide) (by decide)
    show own_F4 Z x0 x1 G3 B ii n0 h0 _ T2.heap _
    rw [e2]
    exact ⟨rfl, rfl, rfl⟩
  obtain ⟨t2, o2, q1, q2, q3, q4⟩ := hgo
  exact ⟨t2, o2, castTop (ef_4 m x0 x1 ) q1, q2, q3, q4⟩
theorem d3_0 : decode jdk_42_method_154_code 0 = .ok (.getstatic 38, 3) := by decide +kernel
theorem d3_3 : decode jdk_42_method_154_code 3 = .ok (.ifCond .eq 14, 3) := by decide +kernel
theorem d3_6 : decode jdk_42_method_154_code 6 = .ok (.aload_n 0, 1) := by decide +kernel
theorem d3_7 : decode jdk_42_method_154_code 7 = .ok (.getfield 15, 3) := by decide +kernel
theorem d3_10 : decode jdk_42_method_154_code 10 = .ok (.ifCond .ne 7, 3) := by decide +kernel
theorem d3_13 : decode jdk_42_method_154_code 13 = .ok (.iconst 1, 1) := by decide +kernel
theorem d3_14 : decode jdk_42_method_154_code 14 = .ok (.goto 4, 3) := by decide +kernel
theorem d3_17 : decode jdk_42_method_154_code 17 = .ok (.iconst 0, 1) := by decide +kernel
theorem d3_18 : decode jdk_42_method_154_code 18 = .ok (.ireturn, 1) := by decide +kernel
theorem pn_3 : plainName "java/lang/String" = true := by first | (simp [plainName, overriddenIn]; done) | decide +kernel
theorem pd_3 : parseMethodDescriptor "()Z" = some ⟨[], (some .boolean)⟩ := by decide +kernel
theorem ef_3 (m : MethodId) (x0 : Addr) : entryFrame m #[(.ref x0)] 1 = mkF m 0 #[.val (.ref x0)] [] := by first | (simp [entryFrame, mkF, argsToLocals, Value.category]; done) | rfl
def own_F3 (Z : State) (x0 : Addr) (G1 : Int32) (n0 : Nat) (h0 : Heap) (v : Option Value) (h : Heap) (L : List Loc) : Prop := v = some (.int (1 : Int32)) ∧ L = [] ∧ h = h0
set_option maxRecDepth 65536 in
set_option maxHeartbeats 40000000 in
theorem own_m3 (l : Launch) (Z : State) (a0 : Array Value) (hw : ∀ d ∈ tables_1, d.before a0 Z = true) (ws : List Jvm.Cond) (x0 : Addr) (G1 : Int32) (n0 : Nat) (h0 : Heap)  (O2 : Sta Z h0 "java/lang/String" "COMPACT_STRINGS" "Z" (.int G1)) (P5 : ¬ G1 = (0 : Int32)) (FC : Fld Z h0 x0 "java/lang/String" "coder" "B" (.int (0 : Int32))) :
    MetFree l (⟨"java/lang/String", "isLatin1", "()Z"⟩ : MethodName) (head1 (Jvm.Cond.code (⟨"java/lang/String", "isLatin1", "()Z"⟩ : MethodName) jdk_42_method_154_code 1 (some .boolean) :: ws) ({ frames := 0, cells := 0, slots := 0, locals := 0 } : Room)) (fun a U => a = #[(.ref x0)] ∧ Z.Warmed39 U.vm ∧ U.heap = h0) (fun _ _ _ _ _ => True) (fun _ U o U' => ∃ v L, o = .returned v ∧ own_F3 Z x0 G1 n0 h0 v U'.heap L ∧ FrameEnd U o U' L ({ frames := 0, cells := 0, slots := 0, locals := 0 } : Room).cells ({ frames := 0, cells := 0, slots := 0, locals := 0 } : Room).slots) := by
  refine MetFree.of_bodySF (plainFor_of_name pn_3) hisR ?_
  intro p e s m args below meth c s₁ Bd hml0 hP hK
  obtain ⟨rfl, hZ, hh⟩ := hP
  have hx := Bd.exec
  have hby := Bd.bytes
  have hml : c.maxLocals = 1 := hml0
  have hown : s.vm.findClass "java/lang/String" = some m.cls := findClass_of_methodNamed Bd.named
  have hnm := (name_of_methodNamed Bd.named Bd.method).1
  have X0 : Stand p l e ({ frames := 0, cells := 0, slots := 0, locals := 0 } : Room) s m #[(.ref x0)] below meth c s₁ [] 0 0 := Stand.of_body Bd
  have e0 : s₁.heap = h0 := by rw [← hh, Bd.state]; rfl
  have N0 := Fr.nil n0
  have K0 : Keep h0 h0 [] := Keep.refl h0 []
  have hgo : own_Goes p e below s (own_F3 Z x0 G1 n0 h0) 0 0 (s₁.setTop (mkF m 0 #[.val (.ref x0)] [])) := by
    obtain ⟨T1, X1, e1, st1⟩ := getS X0 hx hZ (host := "") hown (own_at hw 24 rfl) Via.refl e0 O2 (g := (mkF m 0 #[.val (.ref x0)] [])) rfl (hb hby d3_0)
    refine own_Goes.step st1 ?_
    show own_Goes _ _ _ _ _ _ _ (T1.setTop (mkF m 3 #[.val (.ref x0)] [(.int G1)]))
    refine own_Goes.step (fun tq kq => XS.ifNo X1.here hx rfl (hb hby d3_3) rfl (XT.i0_eq_f (P5)) kq) ?_
    show own_Goes _ _ _ _ _ _ _ (T1.setTop (mkF m 6 #[.val (.ref x0)] []))
    refine own_Goes.step (fun tq kq => XS.aloadN X1.here hx rfl (hb hby d3_6) rfl rfl kq) ?_
    show own_Goes _ _ _ _ _ _ _ (T1.setTop (mkF m 7 #[.val (.ref x0)] [(.ref x0)]))
    obtain ⟨T2, X2, e2, st2⟩ := getF X1 hx hZ hown (host := "") (Or.inl (own_at hw 25 rfl)) Via.refl e1 FC (g := (mkF m 7 #[.val (.ref x0)] [(.ref x0)])) rfl rfl (hb hby d3_7)
    refine own_Goes.step st2 ?_
    show own_Goes _ _ _ _ _ _ _ (T2.setTop (mkF m 10 #[.val (.ref x0)] [(.int (0 : Int32))]))
    refine own_Goes.step (fun tq kq => XS.ifNo X2.here hx rfl (hb hby d3_10) rfl (XT.i0_ne_f (by decide)) kq) ?_
    show own_Goes _ _ _ _ _ _ _ (T2.setTop (mkF m 13 #[.val (.ref x0)] []))
    refine own_Goes.step (fun tq kq => XT.iconstV X2.here hx rfl (1 : Int32) (hb hby d3_13) (by decide) kq) ?_
    show own_Goes _ _ _ _ _ _ _ (T2.setTop (mkF m 14 #[.val (.ref x0)] [(.int (1 : Int32))]))
    refine own_Goes.step (fun tq kq => XS.goto X2.here hx rfl (pc0 := 14) (pc' := 18) rfl (hb hby d3_14) (by decide) (by decide) kq) ?_
    show own_Goes _ _ _ _ _ _ _ (T2.setTop (mkF m 18 #[.val (.ref x0)] [(.int (1 : Int32))]))
    refine own_endN X2 hx Bd.notSynchronized (t := .boolean) Bd.returns (by simp) (hb hby d3_18) ?_ (by decide) (by decide)
    show own_F3 Z x0 G1 n0 h0 _ T2.heap _
    rw [e2]
    exact ⟨rfl, rfl, rfl⟩
  obtain ⟨t2, o2, q1, q2, q3, q4⟩ := hgo
  exact ⟨t2, o2, castTop (ef_3 m x0 ) q1, q2, q3, q4⟩
theorem d2_0 : decode jdk_42_method_56_code 0 = .ok (.aload_n 0, 1) := by decide +kernel
theorem d2_1 : decode jdk_42_method_56_code 1 = .ok (.invokevirtual 492, 3) := by decide +kernel
theorem d2_4 : decode jdk_42_method_56_code 4 = .ok (.ifCond .eq 12, 3) := by decide +kernel
theorem d2_7 : decode jdk_42_method_56_code 7 = .ok (.aload_n 0, 1) := by decide +kernel
theorem d2_8 : decode jdk_42_method_56_code 8 = .ok (.getfield 9, 3) := by decide +kernel
theorem d2_11 : decode jdk_42_method_56_code 11 = .ok (.iload_n 1, 1) := by decide +kernel
theorem d2_12 : decode jdk_42_method_56_code 12 = .ok (.invokestatic 495, 3) := by decide +kernel
theorem d2_15 : decode jdk_42_method_56_code 15 = .ok (.ireturn, 1) := by decide +kernel
theorem d2_16 : decode jdk_42_method_56_code 16 = .ok (.aload_n 0, 1) := by decide +kernel
theorem d2_17 : decode jdk_42_method_56_code 17 = .ok (.getfield 9, 3) := by decide +kernel
theorem d2_20 : decode jdk_42_method_56_code 20 = .ok (.iload_n 1, 1) := by decide +kernel
theorem d2_21 : decode jdk_42_method_56_code 21 = .ok (.invokestatic 498, 3) := by decide +kernel
theorem d2_24 : decode jdk_42_method_56_code 24 = .ok (.ireturn, 1) := by decide +kernel
theorem pn_2 : plainName "java/lang/String" = true := by first | (simp [plainName, overriddenIn]; done) | decide +kernel
theorem pd_2 : parseMethodDescriptor "(I)C" = some ⟨[.int], (some .char)⟩ := by decide +kernel
theorem ef_2 (m : MethodId) (x0 : Addr) (x1 : Int32) : entryFrame m #[(.ref x0), (.int x1)] 2 = mkF m 0 #[.val (.ref x0), .val (.int x1)] [] := by first | (simp [entryFrame, mkF, argsToLocals, Value.category]; done) | rfl
def own_F2 (Z : State) (x0 : Addr) (x1 : Int32) (bA : Addr) (G1 : Int32) (G3 : Value) (B : Nat → Int32) (ii : Nat) (n0 : Nat) (h0 : Heap) (v : Option Value) (h : Heap) (L : List Loc) : Prop := v = some (.int (nar .char (own_chr (B ii)))) ∧ L = [] ∧ h = h0
set_option maxRecDepth 65536 in
set_option maxHeartbeats 40000000 in
theorem own_m2 (l : Launch) (Z : State) (a0 : Array Value) (hw : ∀ d ∈ tables_1, d.before a0 Z = true) (ws : List Jvm.Cond) (x0 : Addr) (x1 : Int32) (bA : Addr) (G1 : Int32) (G3 : Value) (B : Nat → Int32) (ii : Nat) (n0 : Nat) (h0 : Heap)  (O2 : Sta Z h0 "java/lang/String" "COMPACT_STRINGS" "Z" (.int G1)) (P5 : ¬ G1 = (0 : Int32)) (O4 : Sta Z h0 "jdk/internal/util/Preconditions" "SIOOBE_FORMATTER" "Ljava/util/function/BiFunction;" G3) (rG3 : G3.isRef = true) (EX : Exa Z h0 x0 "java/lang/String") (FC : Fld Z h0 x0 "java/lang/String" "coder" "B" (.int (0 : Int32))) (FV : Fld Z h0 x0 "java/lang/String" "value" "[B" (.ref bA)) (RB : own_Ar Z h0 bA .byte 16 (fun uu => .int (B uu))) (hi : x1.toInt = (ii : Nat)) (hii : ii < 16) :
    MetFree l (⟨"java/lang/String", "charAt", "(I)C"⟩ : MethodName) (head1 (Jvm.Cond.code (⟨"java/lang/String", "charAt", "(I)C"⟩ : MethodName) jdk_42_method_56_code 2 (some .char) :: ws) ({ frames := 3, cells := 0, slots := 0, locals := 40 } : Room)) (fun a U => a = #[(.ref x0), (.int x1)] ∧ Z.Warmed39 U.vm ∧ U.heap = h0) (fun _ _ _ _ _ => True) (fun _ U o U' => ∃ v L, o = .returned v ∧ own_F2 Z x0 x1 bA G1 G3 B ii n0 h0 v U'.heap L ∧ FrameEnd U o U' L ({ frames := 3, cells := 0, slots := 0, locals := 40 } : Room).cells ({ frames := 3, cells := 0, slots := 0, locals := 40 } : Room).slots) := by
  refine MetFree.of_bodySF (plainFor_of_name pn_2) hisR ?_
  intro p e s m args below meth c s₁ Bd hml0 hP hK
  obtain ⟨rfl, hZ, hh⟩ := hP
  have hx := Bd.exec
  have hby := Bd.bytes
  have hml : c.maxLocals = 2 := hml0
  have hown : s.vm.findClass "java/lang/String" = some m.cls := findClass_of_methodNamed Bd.named
  have hnm := (name_of_methodNamed Bd.named Bd.method).1
  have X0 : Stand p l e ({ frames := 3, cells := 0, slots := 0, locals := 40 } : Room) s m #[(.ref x0), (.int x1)] below meth c s₁ [] 0 0 := Stand.of_body Bd
  have e0 : s₁.heap = h0 := by rw [← hh, Bd.state]; rfl
  have N0 := Fr.nil n0
  have K0 : Keep h0 h0 [] := Keep.refl h0 []
  have hgo : own_Goes p e below s (own_F2 Z x0 x1 bA G1 G3 B ii n0 h0) 0 0 (s₁.setTop (mkF m 0 #[.val (.ref x0), .val (.int x1)] [])) := by
    refine own_Goes.step (fun tq kq => XS.aloadN X0.here hx rfl (hb hby d2_0) rfl rfl kq) ?_
    show own_Goes _ _ _ _ _ _ _ (s₁.setTop (mkF m 1 #[.val (.ref x0), .val (.int x1)] [(.ref x0)]))
    obtain ⟨w1, T1, L1, q1, Y1, st1⟩ := own_virt X0 hx hZ e0 EX hown (own_at hw 19 rfl) (own_at hw 20 rfl) (own_at hw 22 rfl) (own_at hw 21 rfl) (own_at hw 1 rfl) (own_at hw 23 rfl) (by decide) (own_m3 l Z a0 hw [] x0 G1 n0 h0 O2 P5 FC) (by decide) (W := 0) (by decide) (by decide) (by decide) (g := (mkF m 1 #[.val (.ref x0), .val (.int x1)] [(.ref x0)])) rfl (by rw [hml]; rfl) (argsL := []) (rest := []) (lenOf pd_3 rfl) rfl (by show 2 * 0 + _ ≤ _; exact Nat.le_of_eq rfl) (hb hby d2_1)
    obtain ⟨e1, X1⟩ := own_clean q1 Y1 rfl rfl
    obtain ⟨rfl, -, -⟩ := q1
    refine own_Goes.step st1 ?_
    show own_Goes _ _ _ _ _ _ _ (T1.setTop (mkF m 4 #[.val (.ref x0), .val (.int x1)] [(.int (1 : Int32))]))
    refine own_Goes.step (fun tq kq => XS.ifNo X1.here hx rfl (hb hby d2_4) rfl (XT.i0_eq_f (by decide)) kq) ?_
    show own_Goes _ _ _ _ _ _ _ (T1.setTop (mkF m 7 #[.val (.ref x0), .val (.int x1)] []))
    refine own_Goes.step (fun tq kq => XS.aloadN X1.here hx rfl (hb hby d2_7) rfl rfl kq) ?_
    show own_Goes _ _ _ _ _ _ _ (T1.setTop (mkF m 8 #[.val (.ref x0), .val (.int x1)] [(.ref x0)]))
    obtain ⟨T2, X2, e2, st2⟩ := getF X1 hx hZ hown (host := "") (Or.inl (own_at hw 26 rfl)) Via.refl e1 FV (g := (mkF m 8 #[.val (.ref x0), .val (.int x1)] [(.ref x0)])) rfl rfl (hb hby d2_8)
    refine own_Goes.step st2 ?_
    show own_Goes _ _ _ _ _ _ _ (T2.setTop (mkF m 11 #[.val (.ref x0), .val (.int x1)] [(.ref bA)]))
    refine own_Goes.step (fun tq kq => XS.iloadN X2.here hx rfl (hb hby d2_11) rfl kq) ?_
    show own_Goes _ _ _ _ _ _ _ (T2.setTop (mkF m 12 #[.val (.ref x0), .val (.int x1)] [(.int x1), (.ref bA)]))
    obtain ⟨w3, T3, L3, q3, Y3, st3⟩ := own_stat X2 hx hZ e2 hown (own_at hw 27 rfl) (own_at hw 28 rfl) (own_at hw 29 rfl) (own_at hw 30 rfl) (by decide) (own_m4 l Z a0 hw [] bA x1 G3 B ii n0 h0 O4 rG3 RB hi hii) (by decide) (W := 0) (by decide) (by decide) (by decide) (g := (mkF m 12 #[.val (.ref x0), .val (.int x1)] [(.int x1), (.ref bA)])) rfl (by rw [hml]; rfl) (argsL := [(.ref bA), (.int x1)]) (rest := []) (lenOf pd_4 rfl) rfl (by show 2 * 0 + _ ≤ _; exact Nat.le_of_eq rfl) (hb hby d2_12)
    obtain ⟨e3, X3⟩ := own_clean q3 Y3 rfl rfl
    obtain ⟨rfl, -, -⟩ := q3
    refine own_Goes.step st3 ?_
    show own_Goes _ _ _ _ _ _ _ (T3.setTop (mkF m 15 #[.val (.ref x0), .val (.int x1)] [(.int (own_chr (B ii)))]))
    refine own_endN X3 hx Bd.notSynchronized (t := .char) Bd.returns (by simp) (hb hby d2_15) ?_ (by decide) (by decide)
    show own_F2 Z x0 x1 bA G1 G3 B ii n0 h0 _ T3.heap _
    rw [e3]
    exact ⟨rfl, rfl, rfl⟩
  obtain ⟨t2, o2, q1, q2, q3, q4⟩ := hgo
  exact ⟨t2, o2, castTop (ef_2 m x0 x1 ) q1, q2, q3, q4⟩
theorem d1_0 : decode prog_45_method_7_code 0 = .ok (.iconst (-1), 1) := by decide +kernel
theorem d1_1 : decode prog_45_method_7_code 1 = .ok (.istore_n 1, 1) := by decide +kernel
theorem d1_2 : decode prog_45_method_7_code 2 = .ok (.iload_n 0, 1) := by decide +kernel
theorem d1_3 : decode prog_45_method_7_code 3 = .ok (.bipush 48, 2) := by decide +kernel
theorem d1_5 : decode prog_45_method_7_code 5 = .ok (.if_icmp .lt 17, 3) := by decide +kernel
theorem d1_8 : decode prog_45_method_7_code 8 = .ok (.iload_n 0, 1) := by decide +kernel
theorem d1_9 : decode prog_45_method_7_code 9 = .ok (.bipush 57, 2) := by decide +kernel
theorem d1_11 : decode prog_45_method_7_code 11 = .ok (.if_icmp .gt 11, 3) := by decide +kernel
theorem d1_14 : decode prog_45_method_7_code 14 = .ok (.iload_n 0, 1) := by decide +kernel
theorem d1_15 : decode prog_45_method_7_code 15 = .ok (.bipush 48, 2) := by decide +kernel
theorem d1_17 : decode prog_45_method_7_code 17 = .ok (.isub, 1) := by decide +kernel
theorem d1_18 : decode prog_45_method_7_code 18 = .ok (.istore_n 1, 1) := by decide +kernel
theorem d1_19 : decode prog_45_method_7_code 19 = .ok (.goto 46, 3) := by decide +kernel
theorem d1_22 : decode prog_45_method_7_code 22 = .ok (.iload_n 0, 1) := by decide +kernel
theorem d1_23 : decode prog_45_method_7_code 23 = .ok (.bipush 97, 2) := by decide +kernel
theorem d1_25 : decode prog_45_method_7_code 25 = .ok (.if_icmp .lt 20, 3) := by decide +kernel
theorem d1_28 : decode prog_45_method_7_code 28 = .ok (.iload_n 0, 1) := by decide +kernel
theorem d1_29 : decode prog_45_method_7_code 29 = .ok (.bipush 102, 2) := by decide +kernel
theorem d1_31 : decode prog_45_method_7_code 31 = .ok (.if_icmp .gt 14, 3) := by decide +kernel
theorem d1_34 : decode prog_45_method_7_code 34 = .ok (.iload_n 0, 1) := by decide +kernel
theorem d1_35 : decode prog_45_method_7_code 35 = .ok (.bipush 97, 2) := by decide +kernel
theorem d1_37 : decode prog_45_method_7_code 37 = .ok (.isub, 1) := by decide +kernel
theorem d1_38 : decode prog_45_method_7_code 38 = .ok (.bipush 10, 2) := by decide +kernel
theorem d1_40 : decode prog_45_method_7_code 40 = .ok (.iadd, 1) := by decide +kernel
theorem d1_41 : decode prog_45_method_7_code 41 = .ok (.istore_n 1, 1) := by decide +kernel
theorem d1_42 : decode prog_45_method_7_code 42 = .ok (.goto 23, 3) := by decide +kernel
theorem d1_45 : decode prog_45_method_7_code 45 = .ok (.iload_n 0, 1) := by decide +kernel
theorem d1_46 : decode prog_45_method_7_code 46 = .ok (.bipush 65, 2) := by decide +kernel
theorem d1_48 : decode prog_45_method_7_code 48 = .ok (.if_icmp .lt 17, 3) := by decide +kernel
theorem d1_51 : decode prog_45_method_7_code 51 = .ok (.iload_n 0, 1) := by decide +kernel
theorem d1_52 : decode prog_45_method_7_code 52 = .ok (.bipush 70, 2) := by decide +kernel
theorem d1_54 : decode prog_45_method_7_code 54 = .ok (.if_icmp .gt 11, 3) := by decide +kernel
theorem d1_57 : decode prog_45_method_7_code 57 = .ok (.iload_n 0, 1) := by decide +kernel
theorem d1_58 : decode prog_45_method_7_code 58 = .ok (.bipush 65, 2) := by decide +kernel
theorem d1_60 : decode prog_45_method_7_code 60 = .ok (.isub, 1) := by decide +kernel
theorem d1_61 : decode prog_45_method_7_code 61 = .ok (.bipush 10, 2) := by decide +kernel
theorem d1_63 : decode prog_45_method_7_code 63 = .ok (.iadd, 1) := by decide +kernel
theorem d1_64 : decode prog_45_method_7_code 64 = .ok (.istore_n 1, 1) := by decide +kernel
theorem d1_65 : decode prog_45_method_7_code 65 = .ok (.iload_n 1, 1) := by decide +kernel
theorem d1_66 : decode prog_45_method_7_code 66 = .ok (.ireturn, 1) := by decide +kernel
theorem pn_1 : plainName "com/example/librobots/librobots/robots/UrlPaths" = true := by first | (simp [plainName, overriddenIn]; done) | decide +kernel
theorem pd_1 : parseMethodDescriptor "(I)I" = some ⟨[.int], (some .int)⟩ := by decide +kernel
theorem ef_1 (m : MethodId) (x0 : Int32) : entryFrame m #[(.int x0)] 2 = mkF m 0 #[.val (.int x0), .unset] [] := by first | (simp [entryFrame, mkF, argsToLocals, Value.category]; done) | rfl
def own_f1_1 (x0 : Int32) : Int32 := (if x0 < (48 : Int32) then (if x0 < (97 : Int32) then (if x0 < (65 : Int32) then (-1 : Int32) else (if (70 : Int32) < x0 then (-1 : Int32) else ((x0 - (65 : Int32)) + (10 : Int32)))) else (if (102 : Int32) < x0 then (if x0 < (65 : Int32) then (-1 : Int32) else (if (70 : Int32) < x0 then (-1 : Int32) else ((x0 - (65 : Int32)) + (10 : Int32)))) else ((x0 - (97 : Int32)) + (10 : Int32)))) else (if (57 : Int32) < x0 then (if x0 < (97 : Int32) then (if x0 < (65 : Int32) then (-1 : Int32) else (if (70 : Int32) < x0 then (-1 : Int32) else ((x0 - (65 : Int32)) + (10 : Int32)))) else (if (102 : Int32) < x0 then (if x0 < (65 : Int32) then (-1 : Int32) else (if (70 : Int32) < x0 then (-1 : Int32) else ((x0 - (65 : Int32)) + (10 : Int32)))) else ((x0 - (97 : Int32)) + (10 : Int32)))) else (x0 - (48 : Int32))))
def own_f1 (x0 : Int32) : Int32 := (own_f1_1 x0)
def own_F1 (Z : State) (x0 : Int32)  (h0 : Heap) (v : Option Value) (h : Heap) (L : List Loc) : Prop := v = some (.int (own_f1 x0)) ∧ L = [] ∧ h = h0
set_option maxRecDepth 65536 in
set_option maxHeartbeats 40000000 in
theorem own_m1 (l : Launch) (Z : State) (a0 : Array Value) (hw : ∀ d ∈ tables_1, d.before a0 Z = true) (ws : List Jvm.Cond) (x0 : Int32)  (h0 : Heap)   :
    MetFree l (⟨"com/example/librobots/librobots/robots/UrlPaths", "hexDigit", "(I)I"⟩ : MethodName) (head1 (Jvm.Cond.code (⟨"com/example/librobots/librobots/robots/UrlPaths", "hexDigit", "(I)I"⟩ : MethodName) prog_45_method_7_code 2 (some .int) :: ws) ({ frames := 0, cells := 0, slots := 0, locals := 0 } : Room)) (fun a U => a = #[(.int x0)] ∧ Z.Warmed39 U.vm ∧ U.heap = h0) (fun _ _ _ _ _ => True) (fun _ U o U' => ∃ v L, o = .returned v ∧ own_F1 Z x0 h0 v U'.heap L ∧ FrameEnd U o U' L ({ frames := 0, cells := 0, slots := 0, locals := 0 } : Room).cells ({ frames := 0, cells := 0, slots := 0, locals := 0 } : Room).slots) := by
  refine MetFree.of_bodySF (plainFor_of_name pn_1) hisR ?_
  intro p e s m args below meth c s₁ Bd hml0 hP hK
  obtain ⟨rfl, hZ, hh⟩ := hP
  have hx := Bd.exec
  have hby := Bd.bytes
  have hml : c.maxLocals = 2 := hml0
  have hown : s.vm.findClass "com/example/librobots/librobots/robots/UrlPaths" = some m.cls := findClass_of_methodNamed Bd.named
  have hnm := (name_of_methodNamed Bd.named Bd.method).1
  have X0 : Stand p l e ({ frames := 0, cells := 0, slots := 0, locals := 0 } : Room) s m #[(.int x0)] below meth c s₁ [] 0 0 := Stand.of_body Bd
  have e0 : s₁.heap = h0 := by rw [← hh, Bd.state]; rfl
  have hgo : own_Goes p e below s (own_F1 Z x0 h0) 0 0 (s₁.setTop (mkF m 0 #[.val (.int x0), .unset] [])) := by
    refine own_Goes.step (fun tq kq => XT.iconstV X0.here hx rfl (-1 : Int32) (hb hby d1_0) (by decide) kq) ?_
    show own_Goes _ _ _ _ _ _ _ (s₁.setTop (mkF m 1 #[.val (.int x0), .unset] [(.int (-1 : Int32))]))
    refine own_Goes.step (fun tq kq => XS.istoreN X0.here hx rfl (hb hby d1_1) rfl (l' := #[.val (.int x0), .val (.int (-1 : Int32))]) rfl kq) ?_
    show own_Goes _ _ _ _ _ _ _ (s₁.setTop (mkF m 2 #[.val (.int x0), .val (.int (-1 : Int32))] []))
    refine own_Goes.step (fun tq kq => XS.iloadN X0.here hx rfl (hb hby d1_2) rfl kq) ?_
    show own_Goes _ _ _ _ _ _ _ (s₁.setTop (mkF m 3 #[.val (.int x0), .val (.int (-1 : Int32))] [(.int x0)]))
    refine own_Goes.step (fun tq kq => XT.bipushV X0.here hx rfl (48 : Int32) (hb hby d1_3) (by decide) kq) ?_
    show own_Goes _ _ _ _ _ _ _ (s₁.setTop (mkF m 5 #[.val (.int x0), .val (.int (-1 : Int32))] [(.int (48 : Int32)), (.int x0)]))
    have J15 : own_Goes p e below s (own_F1 Z x0 h0) 0 0 (s₁.setTop (mkF m 65 #[.val (.int x0), .val (.int (own_f1_1 x0))] [])) := by
      refine own_Goes.step (fun tq kq => XS.iloadN X0.here hx rfl (hb hby d1_65) rfl kq) ?_
      show own_Goes _ _ _ _ _ _ _ (s₁.setTop (mkF m 66 #[.val (.int x0), .val (.int (own_f1_1 x0))] [(.int (own_f1_1 x0))]))
      exact own_endI X0 hx Bd.notSynchronized Bd.returns (hb hby d1_66) ⟨(congrArg (fun z => some (Value.int z)) (show (own_f1_1 x0) = own_f1 x0 from by simp only [own_f1])), rfl, e0⟩ (by decide) (by decide)
    by_cases hc1 : x0 < (48 : Int32)
    · refine own_Goes.step (fun tq kq => XS.icmpYes X0.here hx rfl (pc0 := 5) (pc' := 22) rfl (hb hby d1_5) rfl (XT.ii_lt_t hc1) (by decide) (by decide) kq) ?_
      show own_Goes _ _ _ _ _ _ _ (s₁.setTop (mkF m 22 #[.val (.int x0), .val (.int (-1 : Int32))] []))
      refine own_Goes.step (fun tq kq => XS.iloadN X0.here hx rfl (hb hby d1_22) rfl kq) ?_
      show own_Goes _ _ _ _ _ _ _ (s₁.setTop (mkF m 23 #[.val (.int x0), .val (.int (-1 : Int32))] [(.int x0)]))
      refine own_Goes.step (fun tq kq => XT.bipushV X0.here hx rfl (97 : Int32) (hb hby d1_23) (by decide) kq) ?_
      show own_Goes _ _ _ _ _ _ _ (s₁.setTop (mkF m 25 #[.val (.int x0), .val (.int (-1 : Int32))] [(.int (97 : Int32)), (.int x0)]))
      by_cases hc2 : x0 < (97 : Int32)
      · refine own_Goes.step (fun tq kq => XS.icmpYes X0.here hx rfl (pc0 := 25) (pc' := 45) rfl (hb hby d1_25) rfl (XT.ii_lt_t hc2) (by decide) (by decide) kq) ?_
        show own_Goes _ _ _ _ _ _ _ (s₁.setTop (mkF m 45 #[.val (.int x0), .val (.int (-1 : Int32))] []))
        refine own_Goes.step (fun tq kq => XS.iloadN X0.here hx rfl (hb hby d1_45) rfl kq) ?_
        show own_Goes _ _ _ _ _ _ _ (s₁.setTop (mkF m 46 #[.val (.int x0), .val (.int (-1 : Int32))] [(.int x0)]))
        refine own_Goes.step (fun tq kq => XT.bipushV X0.here hx rfl (65 : Int32) (hb hby d1_46) (by decide) kq) ?_
        show own_Goes _ _ _ _ _ _ _ (s₁.setTop (mkF m 48 #[.val (.int x0), .val (.int (-1 : Int32))] [(.int (65 : Int32)), (.int x0)]))
        by_cases hc3 : x0 < (65 : Int32)
        · refine own_Goes.step (fun tq kq => XS.icmpYes X0.here hx rfl (pc0 := 48) (pc' := 65) rfl (hb hby d1_48) rfl (XT.ii_lt_t hc3) (by decide) (by decide) kq) ?_
          show own_Goes _ _ _ _ _ _ _ (s₁.setTop (mkF m 65 #[.val (.int x0), .val (.int (-1 : Int32))] []))
          rw [show (own_f1_1 x0) = (-1 : Int32) from by simp only [own_f1_1, if_pos hc1, if_pos hc2, if_pos hc3]] at J15
          exact J15
        · refine own_Goes.step (fun tq kq => XS.icmpNo X0.here hx rfl (hb hby d1_48) rfl (XT.ii_lt_f hc3) kq) ?_
          show own_Goes _ _ _ _ _ _ _ (s₁.setTop (mkF m 51 #[.val (.int x0), .val (.int (-1 : Int32))] []))
          refine own_Goes.step (fun tq kq => XS.iloadN X0.here hx rfl (hb hby d1_51) rfl kq) ?_
          show own_Goes _ _ _ _ _ _ _ (s₁.setTop (mkF m 52 #[.val (.int x0), .val (.int (-1 : Int32))] [(.int x0)]))
          refine own_Goes.step (fun tq kq => XT.bipushV X0.here hx rfl (70 : Int32) (hb hby d1_52) (by decide) kq) ?_
          show own_Goes _ _ _ _ _ _ _ (s₁.setTop (mkF m 54 #[.val (.int x0), .val (.int (-1 : Int32))] [(.int (70 : Int32)), (.int x0)]))
          by_cases hc4 : (70 : Int32) < x0
          · refine own_Goes.step (fun tq kq => XS.icmpYes X0.here hx rfl (pc0 := 54) (pc' := 65) rfl (hb hby d1_54) rfl (XT.ii_gt_t hc4) (by decide) (by decide) kq) ?_
            show own_Goes _ _ _ _ _ _ _ (s₁.setTop (mkF m 65 #[.val (.int x0), .val (.int (-1 : Int32))] []))
            rw [show (own_f1_1 x0) = (-1 : Int32) from by simp only [own_f1_1, if_pos hc1, if_pos hc2, if_neg hc3, if_pos hc4]] at J15
            exact J15
          · refine own_Goes.step (fun tq kq => XS.icmpNo X0.here hx rfl (hb hby d1_54) rfl (XT.ii_gt_f hc4) kq) ?_
            show own_Goes _ _ _ _ _ _ _ (s₁.setTop (mkF m 57 #[.val (.int x0), .val (.int (-1 : Int32))] []))
            refine own_Goes.step (fun tq kq => XS.iloadN X0.here hx rfl (hb hby d1_57) rfl kq) ?_
            show own_Goes _ _ _ _ _ _ _ (s₁.setTop (mkF m 58 #[.val (.int x0), .val (.int (-1 : Int32))] [(.int x0)]))
            refine own_Goes.step (fun tq kq => XT.bipushV X0.here hx rfl (65 : Int32) (hb hby d1_58) (by decide) kq) ?_
            show own_Goes _ _ _ _ _ _ _ (s₁.setTop (mkF m 60 #[.val (.int x0), .val (.int (-1 : Int32))] [(.int (65 : Int32)), (.int x0)]))
            refine own_Goes.step (fun tq kq => XS.isub X0.here hx rfl (hb hby d1_60) rfl kq) ?_
            show own_Goes _ _ _ _ _ _ _ (s₁.setTop (mkF m 61 #[.val (.int x0), .val (.int (-1 : Int32))] [(.int (x0 - (65 : Int32)))]))
            refine own_Goes.step (fun tq kq => XT.bipushV X0.here hx rfl (10 : Int32) (hb hby d1_61) (by decide) kq) ?_
            show own_Goes _ _ _ _ _ _ _ (s₁.setTop (mkF m 63 #[.val (.int x0), .val (.int (-1 : Int32))] [(.int (10 : Int32)), (.int (x0 - (65 : Int32)))]))
            refine own_Goes.step (fun tq kq => XS.iadd X0.here hx rfl (hb hby d1_63) rfl kq) ?_
            show own_Goes _ _ _ _ _ _ _ (s₁.setTop (mkF m 64 #[.val (.int x0), .val (.int (-1 : Int32))] [(.int ((x0 - (65 : Int32)) + (10 : Int32)))]))
            refine own_Goes.step (fun tq kq => XS.istoreN X0.here hx rfl (hb hby d1_64) rfl (l' := #[.val (.int x0), .val (.int ((x0 - (65 : Int32)) + (10 : Int32)))]) rfl kq) ?_
            show own_Goes _ _ _ _ _ _ _ (s₁.setTop (mkF m 65 #[.val (.int x0), .val (.int ((x0 - (65 : Int32)) + (10 : Int32)))] []))
            rw [show (own_f1_1 x0) = ((x0 - (65 : Int32)) + (10 : Int32)) from by simp only [own_f1_1, if_pos hc1, if_pos hc2, if_neg hc3, if_neg hc4]] at J15
            exact J15
      · refine own_Goes.step (fun tq kq => XS.icmpNo X0.here hx rfl (hb hby d1_25) rfl (XT.ii_lt_f hc2) kq) ?_
        show own_Goes _ _ _ _ _ _ _ (s₁.setTop (mkF m 28 #[.val (.int x0), .val (.int (-1 : Int32))] []))
        refine own_Goes.step (fun tq kq => XS.iloadN X0.here hx rfl (hb hby d1_28) rfl kq) ?_
        show own_Goes _ _ _ _ _ _ _ (s₁.setTop (mkF m 29 #[.val (.int x0), .val (.int (-1 : Int32))] [(.int x0)]))
        refine own_Goes.step (fun tq kq => XT.bipushV X0.here hx rfl (102 : Int32) (hb hby d1_29) (by decide) kq) ?_
        show own_Goes _ _ _ _ _ _ _ (s₁.setTop (mkF m 31 #[.val (.int x0), .val (.int (-1 : Int32))] [(.int (102 : Int32)), (.int x0)]))
        by_cases hc5 : (102 : Int32) < x0
        · refine own_Goes.step (fun tq kq => XS.icmpYes X0.here hx rfl (pc0 := 31) (pc' := 45) rfl (hb hby d1_31) rfl (XT.ii_gt_t hc5) (by decide) (by decide) kq) ?_
          show own_Goes _ _ _ _ _ _ _ (s₁.setTop (mkF m 45 #[.val (.int x0), .val (.int (-1 : Int32))] []))
          refine own_Goes.step (fun tq kq => XS.iloadN X0.here hx rfl (hb hby d1_45) rfl kq) ?_
          show own_Goes _ _ _ _ _ _ _ (s₁.setTop (mkF m 46 #[.val (.int x0), .val (.int (-1 : Int32))] [(.int x0)]))
          refine own_Goes.step (fun tq kq => XT.bipushV X0.here hx rfl (65 : Int32) (hb hby d1_46) (by decide) kq) ?_
          show own_Goes _ _ _ _ _ _ _ (s₁.setTop (mkF m 48 #[.val (.int x0), .val (.int (-1 : Int32))] [(.int (65 : Int32)), (.int x0)]))
          by_cases hc6 : x0 < (65 : Int32)
          · refine own_Goes.step (fun tq kq => XS.icmpYes X0.here hx rfl (pc0 := 48) (pc' := 65) rfl (hb hby d1_48) rfl (XT.ii_lt_t hc6) (by decide) (by decide) kq) ?_
            show own_Goes _ _ _ _ _ _ _ (s₁.setTop (mkF m 65 #[.val (.int x0), .val (.int (-1 : Int32))] []))
            rw [show (own_f1_1 x0) = (-1 : Int32) from by simp only [own_f1_1, if_pos hc1, if_neg hc2, if_pos hc5, if_pos hc6]] at J15
            exact J15
          · refine own_Goes.step (fun tq kq => XS.icmpNo X0.here hx rfl (hb hby d1_48) rfl (XT.ii_lt_f hc6) kq) ?_
            show own_Goes _ _ _ _ _ _ _ (s₁.setTop (mkF m 51 #[.val (.int x0), .val (.int (-1 : Int32))] []))
            refine own_Goes.step (fun tq kq => XS.iloadN X0.here hx rfl (hb hby d1_51) rfl kq) ?_
            show own_Goes _ _ _ _ _ _ _ (s₁.setTop (mkF m 52 #[.val (.int x0), .val (.int (-1 : Int32))] [(.int x0)]))
            refine own_Goes.step (fun tq kq => XT.bipushV X0.here hx rfl (70 : Int32) (hb hby d1_52) (by decide) kq) ?_
            show own_Goes _ _ _ _ _ _ _ (s₁.setTop (mkF m 54 #[.val (.int x0), .val (.int (-1 : Int32))] [(.int (70 : Int32)), (.int x0)]))
            by_cases hc7 : (70 : Int32) < x0
            · refine own_Goes.step (fun tq kq => XS.icmpYes X0.here hx rfl (pc0 := 54) (pc' := 65) rfl (hb hby d1_54) rfl (XT.ii_gt_t hc7) (by decide) (by decide) kq) ?_
              show own_Goes _ _ _ _ _ _ _ (s₁.setTop (mkF m 65 #[.val (.int x0), .val (.int (-1 : Int32))] []))
              rw [show (own_f1_1 x0) = (-1 : Int32) from by simp only [own_f1_1, if_pos hc1, if_neg hc2, if_pos hc5, if_neg hc6, if_pos hc7]] at J15
              exact J15
            · refine own_Goes.step (fun tq kq => XS.icmpNo X0.here hx rfl (hb hby d1_54) rfl (XT.ii_gt_f hc7) kq) ?_
              show own_Goes _ _ _ _ _ _ _ (s₁.setTop (mkF m 57 #[.val (.int x0), .val (.int (-1 : Int32))] []))
              refine own_Goes.step (fun tq kq => XS.iloadN X0.here hx rfl (hb hby d1_57) rfl kq) ?_
              show own_Goes _ _ _ _ _ _ _ (s₁.setTop (mkF m 58 #[.val (.int x0), .val (.int (-1 : Int32))] [(.int x0)]))
              refine own_Goes.step (fun tq kq => XT.bipushV X0.here hx rfl (65 : Int32) (hb hby d1_58) (by decide) kq) ?_
              show own_Goes _ _ _ _ _ _ _ (s₁.setTop (mkF m 60 #[.val (.int x0), .val (.int (-1 : Int32))] [(.int (65 : Int32)), (.int x0)]))
              refine own_Goes.step (fun tq kq => XS.isub X0.here hx rfl (hb hby d1_60) rfl kq) ?_
              show own_Goes _ _ _ _ _ _ _ (s₁.setTop (mkF m 61 #[.val (.int x0), .val (.int (-1 : Int32))] [(.int (x0 - (65 : Int32)))]))
              refine own_Goes.step (fun tq kq => XT.bipushV X0.here hx rfl (10 : Int32) (hb hby d1_61) (by decide) kq) ?_
              show own_Goes _ _ _ _ _ _ _ (s₁.setTop (mkF m 63 #[.val (.int x0), .val (.int (-1 : Int32))] [(.int (10 : Int32)), (.int (x0 - (65 : Int32)))]))
              refine own_Goes.step (fun tq kq => XS.iadd X0.here hx rfl (hb hby d1_63) rfl kq) ?_
              show own_Goes _ _ _ _ _ _ _ (s₁.setTop (mkF m 64 #[.val (.int x0), .val (.int (-1 : Int32))] [(.int ((x0 - (65 : Int32)) + (10 : Int32)))]))
              refine own_Goes.step (fun tq kq => XS.istoreN X0.here hx rfl (hb hby d1_64) rfl (l' := #[.val (.int x0), .val (.int ((x0 - (65 : Int32)) + (10 : Int32)))]) rfl kq) ?_
              show own_Goes _ _ _ _ _ _ _ (s₁.setTop (mkF m 65 #[.val (.int x0), .val (.int ((x0 - (65 : Int32)) + (10 : Int32)))] []))
              rw [show (own_f1_1 x0) = ((x0 - (65 : Int32)) + (10 : Int32)) from by simp only [own_f1_1, if_pos hc1, if_neg hc2, if_pos hc5, if_neg hc6, if_neg hc7]] at J15
              exact J15
        · refine own_Goes.step (fun tq kq => XS.icmpNo X0.here hx rfl (hb hby d1_31) rfl (XT.ii_gt_f hc5) kq) ?_
          show own_Goes _ _ _ _ _ _ _ (s₁.setTop (mkF m 34 #[.val (.int x0), .val (.int (-1 : Int32))] []))
          refine own_Goes.step (fun tq kq => XS.iloadN X0.here hx rfl (hb hby d1_34) rfl kq) ?_
          show own_Goes _ _ _ _ _ _ _ (s₁.setTop (mkF m 35 #[.val (.int x0), .val (.int (-1 : Int32))] [(.int x0)]))
          refine own_Goes.step (fun tq kq => XT.bipushV X0.here hx rfl (97 : Int32) (hb hby d1_35) (by decide) kq) ?_
          show own_Goes _ _ _ _ _ _ _ (s₁.setTop (mkF m 37 #[.val (.int x0), .val (.int (-1 : Int32))] [(.int (97 : Int32)), (.int x0)]))
          refine own_Goes.step (fun tq kq => XS.isub X0.here hx rfl (hb hby d1_37) rfl kq) ?_
          show own_Goes _ _ _ _ _ _ _ (s₁.setTop (mkF m 38 #[.val (.int x0), .val (.int (-1 : Int32))] [(.int (x0 - (97 : Int32)))]))
          refine own_Goes.step (fun tq kq => XT.bipushV X0.here hx rfl (10 : Int32) (hb hby d1_38) (by decide) kq) ?_
          show own_Goes _ _ _ _ _ _ _ (s₁.setTop (mkF m 40 #[.val (.int x0), .val (.int (-1 : Int32))] [(.int (10 : Int32)), (.int (x0 - (97 : Int32)))]))
          refine own_Goes.step (fun tq kq => XS.iadd X0.here hx rfl (hb hby d1_40) rfl kq) ?_
          show own_Goes _ _ _ _ _ _ _ (s₁.setTop (mkF m 41 #[.val (.int x0), .val (.int (-1 : Int32))] [(.int ((x0 - (97 : Int32)) + (10 : Int32)))]))
          refine own_Goes.step (fun tq kq => XS.istoreN X0.here hx rfl (hb hby d1_41) rfl (l' := #[.val (.int x0), .val (.int ((x0 - (97 : Int32)) + (10 : Int32)))]) rfl kq) ?_
          show own_Goes _ _ _ _ _ _ _ (s₁.setTop (mkF m 42 #[.val (.int x0), .val (.int ((x0 - (97 : Int32)) + (10 : Int32)))] []))
          refine own_Goes.step (fun tq kq => XS.goto X0.here hx rfl (pc0 := 42) (pc' := 65) rfl (hb hby d1_42) (by decide) (by decide) kq) ?_
          show own_Goes _ _ _ _ _ _ _ (s₁.setTop (mkF m 65 #[.val (.int x0), .val (.int ((x0 - (97 : Int32)) + (10 : Int32)))] []))
          rw [show (own_f1_1 x0) = ((x0 - (97 : Int32)) + (10 : Int32)) from by simp only [own_f1_1, if_pos hc1, if_neg hc2, if_neg hc5]] at J15
          exact J15
    · refine own_Goes.step (fun tq kq => XS.icmpNo X0.here hx rfl (hb hby d1_5) rfl (XT.ii_lt_f hc1) kq) ?_
      show own_Goes _ _ _ _ _ _ _ (s₁.setTop (mkF m 8 #[.val (.int x0), .val (.int (-1 : Int32))] []))
      refine own_Goes.step (fun tq kq => XS.iloadN X0.here hx rfl (hb hby d1_8) rfl kq) ?_
      show own_Goes _ _ _ _ _ _ _ (s₁.setTop (mkF m 9 #[.val (.int x0), .val (.int (-1 : Int32))] [(.int x0)]))
      refine own_Goes.step (fun tq kq => XT.bipushV X0.here hx rfl (57 : Int32) (hb hby d1_9) (by decide) kq) ?_
      show own_Goes _ _ _ _ _ _ _ (s₁.setTop (mkF m 11 #[.val (.int x0), .val (.int (-1 : Int32))] [(.int (57 : Int32)), (.int x0)]))
      by_cases hc8 : (57 : Int32) < x0
      · refine own_Goes.step (fun tq kq => XS.icmpYes X0.here hx rfl (pc0 := 11) (pc' := 22) rfl (hb hby d1_11) rfl (XT.ii_gt_t hc8) (by decide) (by decide) kq) ?_
        show own_Goes _ _ _ _ _ _ _ (s₁.setTop (mkF m 22 #[.val (.int x0), .val (.int (-1 : Int32))] []))
        refine own_Goes.step (fun tq kq => XS.iloadN X0.here hx rfl (hb hby d1_22) rfl kq) ?_
        show own_Goes _ _ _ _ _ _ _ (s₁.setTop (mkF m 23 #[.val (.int x0), .val (.int (-1 : Int32))] [(.int x0)]))
        refine own_Goes.step (fun tq kq => XT.bipushV X0.here hx rfl (97 : Int32) (hb hby d1_23) (by decide) kq) ?_
        show own_Goes _ _ _ _ _ _ _ (s₁.setTop (mkF m 25 #[.val (.int x0), .val (.int (-1 : Int32))] [(.int (97 : Int32)), (.int x0)]))
        by_cases hc9 : x0 < (97 : Int32)
        · refine own_Goes.step (fun tq kq => XS.icmpYes X0.here hx rfl (pc0 := 25) (pc' := 45) rfl (hb hby d1_25) rfl (XT.ii_lt_t hc9) (by decide) (by decide) kq) ?_
          show own_Goes _ _ _ _ _ _ _ (s₁.setTop (mkF m 45 #[.val (.int x0), .val (.int (-1 : Int32))] []))
          refine own_Goes.step (fun tq kq => XS.iloadN X0.here hx rfl (hb hby d1_45) rfl kq) ?_
          show own_Goes _ _ _ _ _ _ _ (s₁.setTop (mkF m 46 #[.val (.int x0), .val (.int (-1 : Int32))] [(.int x0)]))
          refine own_Goes.step (fun tq kq => XT.bipushV X0.here hx rfl (65 : Int32) (hb hby d1_46) (by decide) kq) ?_
          show own_Goes _ _ _ _ _ _ _ (s₁.setTop (mkF m 48 #[.val (.int x0), .val (.int (-1 : Int32))] [(.int (65 : Int32)), (.int x0)]))
          by_cases hc10 : x0 < (65 : Int32)
          · refine own_Goes.step (fun tq kq => XS.icmpYes X0.here hx rfl (pc0 := 48) (pc' := 65) rfl (hb hby d1_48) rfl (XT.ii_lt_t hc10) (by decide) (by decide) kq) ?_
            show own_Goes _ _ _ _ _ _ _ (s₁.setTop (mkF m 65 #[.val (.int x0), .val (.int (-1 : Int32))] []))
            rw [show (own_f1_1 x0) = (-1 : Int32) from by simp only [own_f1_1, if_neg hc1, if_pos hc8, if_pos hc9, if_pos hc10]] at J15
            exact J15
          · refine own_Goes.step (fun tq kq => XS.icmpNo X0.here hx rfl (hb hby d1_48) rfl (XT.ii_lt_f hc10) kq) ?_
            show own_Goes _ _ _ _ _ _ _ (s₁.setTop (mkF m 51 #[.val (.int x0), .val (.int (-1 : Int32))] []))
            refine own_Goes.step (fun tq kq => XS.iloadN X0.here hx rfl (hb hby d1_51) rfl kq) ?_
            show own_Goes _ _ _ _ _ _ _ (s₁.setTop (mkF m 52 #[.val (.int x0), .val (.int (-1 : Int32))] [(.int x0)]))
            refine own_Goes.step (fun tq kq => XT.bipushV X0.here hx rfl (70 : Int32) (hb hby d1_52) (by decide) kq) ?_
            show own_Goes _ _ _ _ _ _ _ (s₁.setTop (mkF m 54 #[.val (.int x0), .val (.int (-1 : Int32))] [(.int (70 : Int32)), (.int x0)]))
            by_cases hc11 : (70 : Int32) < x0
            · refine own_Goes.step (fun tq kq => XS.icmpYes X0.here hx rfl (pc0 := 54) (pc' := 65) rfl (hb hby d1_54) rfl (XT.ii_gt_t hc11) (by decide) (by decide) kq) ?_
              show own_Goes _ _ _ _ _ _ _ (s₁.setTop (mkF m 65 #[.val (.int x0), .val (.int (-1 : Int32))] []))
              rw [show (own_f1_1 x0) = (-1 : Int32) from by simp only [own_f1_1, if_neg hc1, if_pos hc8, if_pos hc9, if_neg hc10, if_pos hc11]] at J15
              exact J15
            · refine own_Goes.step (fun tq kq => XS.icmpNo X0.here hx rfl (hb hby d1_54) rfl (XT.ii_gt_f hc11) kq) ?_
              show own_Goes _ _ _ _ _ _ _ (s₁.setTop (mkF m 57 #[.val (.int x0), .val (.int (-1 : Int32))] []))
              refine own_Goes.step (fun tq kq => XS.iloadN X0.here hx rfl (hb hby d1_57) rfl kq) ?_
              show own_Goes _ _ _ _ _ _ _ (s₁.setTop (mkF m 58 #[.val (.int x0), .val (.int (-1 : Int32))] [(.int x0)]))
              refine own_Goes.step (fun tq kq => XT.bipushV X0.here hx rfl (65 : Int32) (hb hby d1_58) (by decide) kq) ?_
              show own_Goes _ _ _ _ _ _ _ (s₁.setTop (mkF m 60 #[.val (.int x0), .val (.int (-1 : Int32))] [(.int (65 : Int32)), (.int x0)]))
              refine own_Goes.step (fun tq kq => XS.isub X0.here hx rfl (hb hby d1_60) rfl kq) ?_
              show own_Goes _ _ _ _ _ _ _ (s₁.setTop (mkF m 61 #[.val (.int x0), .val (.int (-1 : Int32))] [(.int (x0 - (65 : Int32)))]))
              refine own_Goes.step (fun tq kq => XT.bipushV X0.here hx rfl (10 : Int32) (hb hby d1_61) (by decide) kq) ?_
              show own_Goes _ _ _ _ _ _ _ (s₁.setTop (mkF m 63 #[.val (.int x0), .val (.int (-1 : Int32))] [(.int (10 : Int32)), (.int (x0 - (65 : Int32)))]))
              refine own_Goes.step (fun tq kq => XS.iadd X0.here hx rfl (hb hby d1_63) rfl kq) ?_
              show own_Goes _ _ _ _ _ _ _ (s₁.setTop (mkF m 64 #[.val (.int x0), .val (.int (-1 : Int32))] [(.int ((x0 - (65 : Int32)) + (10 : Int32)))]))
              refine own_Goes.step (fun tq kq => XS.istoreN X0.here hx rfl (hb hby d1_64) rfl (l' := #[.val (.int x0), .val (.int ((x0 - (65 : Int32)) + (10 : Int32)))]) rfl kq) ?_
              show own_Goes _ _ _ _ _ _ _ (s₁.setTop (mkF m 65 #[.val (.int x0), .val (.int ((x0 - (65 : Int32)) + (10 : Int32)))] []))
              rw [show (own_f1_1 x0) = ((x0 - (65 : Int32)) + (10 : Int32)) from by simp only [own_f1_1, if_neg hc1, if_pos hc8, if_pos hc9, if_neg hc10, if_neg hc11]] at J15
              exact J15
        · refine own_Goes.step (fun tq kq => XS.icmpNo X0.here hx rfl (hb hby d1_25) rfl (XT.ii_lt_f hc9) kq) ?_
          show own_Goes _ _ _ _ _ _ _ (s₁.setTop (mkF m 28 #[.val (.int x0), .val (.int (-1 : Int32))] []))
          refine own_Goes.step (fun tq kq => XS.iloadN X0.here hx rfl (hb hby d1_28) rfl kq) ?_
          show own_Goes _ _ _ _ _ _ _ (s₁.setTop (mkF m 29 #[.val (.int x0), .val (.int (-1 : Int32))] [(.int x0)]))
          refine own_Goes.step (fun tq kq => XT.bipushV X0.here hx rfl (102 : Int32) (hb hby d1_29) (by decide) kq) ?_
          show own_Goes _ _ _ _ _ _ _ (s₁.setTop (mkF m 31 #[.val (.int x0), .val (.int (-1 : Int32))] [(.int (102 : Int32)), (.int x0)]))
          by_cases hc12 : (102 : Int32) < x0
          · refine own_Goes.step (fun tq kq => XS.icmpYes X0.here hx rfl (pc0 := 31) (pc' := 45) rfl (hb hby d1_31) rfl (XT.ii_gt_t hc12) (by decide) (by decide) kq) ?_
            show own_Goes _ _ _ _ _ _ _ (s₁.setTop (mkF m 45 #[.val (.int x0), .val (.int (-1 : Int32))] []))
            refine own_Goes.step (fun tq kq => XS.iloadN X0.here hx rfl (hb hby d1_45) rfl kq) ?_
            show own_Goes _ _ _ _ _ _ _ (s₁.setTop (mkF m 46 #[.val (.int x0), .val (.int (-1 : Int32))] [(.int x0)]))
            refine own_Goes.step (fun tq kq => XT.bipushV X0.here hx rfl (65 : Int32) (hb hby d1_46) (by decide) kq) ?_
            show own_Goes _ _ _ _ _ _ _ (s₁.setTop (mkF m 48 #[.val (.int x0), .val (.int (-1 : Int32))] [(.int (65 : Int32)), (.int x0)]))
            by_cases hc13 : x0 < (65 : Int32)
            · refine own_Goes.step (fun tq kq => XS.icmpYes X0.here hx rfl (pc0 := 48) (pc' := 65) rfl (hb hby d1_48) rfl (XT.ii_lt_t hc13) (by decide) (by decide) kq) ?_
              show own_Goes _ _ _ _ _ _ _ (s₁.setTop (mkF m 65 #[.val (.int x0), .val (.int (-1 : Int32))] []))
              rw [show (own_f1_1 x0) = (-1 : Int32) from by simp only [own_f1_1, if_neg hc1, if_pos hc8, if_neg hc9, if_pos hc12, if_pos hc13]] at J15
              exact J15
            · refine own_Goes.step (fun tq kq => XS.icmpNo X0.here hx rfl (hb hby d1_48) rfl (XT.ii_lt_f hc13) kq) ?_
              show own_Goes _ _ _ _ _ _ _ (s₁.setTop (mkF m 51 #[.val (.int x0), .val (.int (-1 : Int32))] []))
              refine own_Goes.step (fun tq kq => XS.iloadN X0.here hx rfl (hb hby d1_51) rfl kq) ?_
              show own_Goes _ _ _ _ _ _ _ (s₁.setTop (mkF m 52 #[.val (.int x0), .val (.int (-1 : Int32))] [(.int x0)]))
              refine own_Goes.step (fun tq kq => XT.bipushV X0.here hx rfl (70 : Int32) (hb hby d1_52) (by decide) kq) ?_
              show own_Goes _ _ _ _ _ _ _ (s₁.setTop (mkF m 54 #[.val (.int x0), .val (.int (-1 : Int32))] [(.int (70 : Int32)), (.int x0)]))
              by_cases hc14 : (70 : Int32) < x0
              · refine own_Goes.step (fun tq kq => XS.icmpYes X0.here hx rfl (pc0 := 54) (pc' := 65) rfl (hb hby d1_54) rfl (XT.ii_gt_t hc14) (by decide) (by decide) kq) ?_
                show own_Goes _ _ _ _ _ _ _ (s₁.setTop (mkF m 65 #[.val (.int x0), .val (.int (-1 : Int32))] []))
                rw [show (own_f1_1 x0) = (-1 : Int32) from by simp only [own_f1_1, if_neg hc1, if_pos hc8, if_neg hc9, if_pos hc12, if_neg hc13, if_pos hc14]] at J15
                exact J15
              · refine own_Goes.step (fun tq kq => XS.icmpNo X0.here hx rfl (hb hby d1_54) rfl (XT.ii_gt_f hc14) kq) ?_
                show own_Goes _ _ _ _ _ _ _ (s₁.setTop (mkF m 57 #[.val (.int x0), .val (.int (-1 : Int32))] []))
                refine own_Goes.step (fun tq kq => XS.iloadN X0.here hx rfl (hb hby d1_57) rfl kq) ?_
                show own_Goes _ _ _ _ _ _ _ (s₁.setTop (mkF m 58 #[.val (.int x0), .val (.int (-1 : Int32))] [(.int x0)]))
                refine own_Goes.step (fun tq kq => XT.bipushV X0.here hx rfl (65 : Int32) (hb hby d1_58) (by decide) kq) ?_
                show own_Goes _ _ _ _ _ _ _ (s₁.setTop (mkF m 60 #[.val (.int x0), .val (.int (-1 : Int32))] [(.int (65 : Int32)), (.int x0)]))
                refine own_Goes.step (fun tq kq => XS.isub X0.here hx rfl (hb hby d1_60) rfl kq) ?_
                show own_Goes _ _ _ _ _ _ _ (s₁.setTop (mkF m 61 #[.val (.int x0), .val (.int (-1 : Int32))] [(.int (x0 - (65 : Int32)))]))
                refine own_Goes.step (fun tq kq => XT.bipushV X0.here hx rfl (10 : Int32) (hb hby d1_61) (by decide) kq) ?_
                show own_Goes _ _ _ _ _ _ _ (s₁.setTop (mkF m 63 #[.val (.int x0), .val (.int (-1 : Int32))] [(.int (10 : Int32)), (.int (x0 - (65 : Int32)))]))
                refine own_Goes.step (fun tq kq => XS.iadd X0.here hx rfl (hb hby d1_63) rfl kq) ?_
                show own_Goes _ _ _ _ _ _ _ (s₁.setTop (mkF m 64 #[.val (.int x0), .val (.int (-1 : Int32))] [(.int ((x0 - (65 : Int32)) + (10 : Int32)))]))
                refine own_Goes.step (fun tq kq => XS.istoreN X0.here hx rfl (hb hby d1_64) rfl (l' := #[.val (.int x0), .val (.int ((x0 - (65 : Int32)) + (10 : Int32)))]) rfl kq) ?_
                show own_Goes _ _ _ _ _ _ _ (s₁.setTop (mkF m 65 #[.val (.int x0), .val (.int ((x0 - (65 : Int32)) + (10 : Int32)))] []))
                rw [show (own_f1_1 x0) = ((x0 - (65 : Int32)) + (10 : Int32)) from by simp only [own_f1_1, if_neg hc1, if_pos hc8, if_neg hc9, if_pos hc12, if_neg hc13, if_neg hc14]] at J15
                exact J15
          · refine own_Goes.step (fun tq kq => XS.icmpNo X0.here hx rfl (hb hby d1_31) rfl (XT.ii_gt_f hc12) kq) ?_
            show own_Goes _ _ _ _ _ _ _ (s₁.setTop (mkF m 34 #[.val (.int x0), .val (.int (-1 : Int32))] []))
            refine own_Goes.step (fun tq kq => XS.iloadN X0.here hx rfl (hb hby d1_34) rfl kq) ?_
            show own_Goes _ _ _ _ _ _ _ (s₁.setTop (mkF m 35 #[.val (.int x0), .val (.int (-1 : Int32))] [(.int x0)]))
            refine own_Goes.step (fun tq kq => XT.bipushV X0.here hx rfl (97 : Int32) (hb hby d1_35) (by decide) kq) ?_
            show own_Goes _ _ _ _ _ _ _ (s₁.setTop (mkF m 37 #[.val (.int x0), .val (.int (-1 : Int32))] [(.int (97 : Int32)), (.int x0)]))
            refine own_Goes.step (fun tq kq => XS.isub X0.here hx rfl (hb hby d1_37) rfl kq) ?_
            show own_Goes _ _ _ _ _ _ _ (s₁.setTop (mkF m 38 #[.val (.int x0), .val (.int (-1 : Int32))] [(.int (x0 - (97 : Int32)))]))
            refine own_Goes.step (fun tq kq => XT.bipushV X0.here hx rfl (10 : Int32) (hb hby d1_38) (by decide) kq) ?_
            show own_Goes _ _ _ _ _ _ _ (s₁.setTop (mkF m 40 #[.val (.int x0), .val (.int (-1 : Int32))] [(.int (10 : Int32)), (.int (x0 - (97 : Int32)))]))
            refine own_Goes.step (fun tq kq => XS.iadd X0.here hx rfl (hb hby d1_40) rfl kq) ?_
            show own_Goes _ _ _ _ _ _ _ (s₁.setTop (mkF m 41 #[.val (.int x0), .val (.int (-1 : Int32))] [(.int ((x0 - (97 : Int32)) + (10 : Int32)))]))
            refine own_Goes.step (fun tq kq => XS.istoreN X0.here hx rfl (hb hby d1_41) rfl (l' := #[.val (.int x0), .val (.int ((x0 - (97 : Int32)) + (10 : Int32)))]) rfl kq) ?_
            show own_Goes _ _ _ _ _ _ _ (s₁.setTop (mkF m 42 #[.val (.int x0), .val (.int ((x0 - (97 : Int32)) + (10 : Int32)))] []))
            refine own_Goes.step (fun tq kq => XS.goto X0.here hx rfl (pc0 := 42) (pc' := 65) rfl (hb hby d1_42) (by decide) (by decide) kq) ?_
            show own_Goes _ _ _ _ _ _ _ (s₁.setTop (mkF m 65 #[.val (.int x0), .val (.int ((x0 - (97 : Int32)) + (10 : Int32)))] []))
            rw [show (own_f1_1 x0) = ((x0 - (97 : Int32)) + (10 : Int32)) from by simp only [own_f1_1, if_neg hc1, if_pos hc8, if_neg hc9, if_neg hc12]] at J15
            exact J15
      · refine own_Goes.step (fun tq kq => XS.icmpNo X0.here hx rfl (hb hby d1_11) rfl (XT.ii_gt_f hc8) kq) ?_
        show own_Goes _ _ _ _ _ _ _ (s₁.setTop (mkF m 14 #[.val (.int x0), .val (.int (-1 : Int32))] []))
        refine own_Goes.step (fun tq kq => XS.iloadN X0.here hx rfl (hb hby d1_14) rfl kq) ?_
        show own_Goes _ _ _ _ _ _ _ (s₁.setTop (mkF m 15 #[.val (.int x0), .val (.int (-1 : Int32))] [(.int x0)]))
        refine own_Goes.step (fun tq kq => XT.bipushV X0.here hx rfl (48 : Int32) (hb hby d1_15) (by decide) kq) ?_
        show own_Goes _ _ _ _ _ _ _ (s₁.setTop (mkF m 17 #[.val (.int x0), .val (.int (-1 : Int32))] [(.int (48 : Int32)), (.int x0)]))
        refine own_Goes.step (fun tq kq => XS.isub X0.here hx rfl (hb hby d1_17) rfl kq) ?_
        show own_Goes _ _ _ _ _ _ _ (s₁.setTop (mkF m 18 #[.val (.int x0), .val (.int (-1 : Int32))] [(.int (x0 - (48 : Int32)))]))
        refine own_Goes.step (fun tq kq => XS.istoreN X0.here hx rfl (hb hby d1_18) rfl (l' := #[.val (.int x0), .val (.int (x0 - (48 : Int32)))]) rfl kq) ?_
        show own_Goes _ _ _ _ _ _ _ (s₁.setTop (mkF m 19 #[.val (.int x0), .val (.int (x0 - (48 : Int32)))] []))
        refine own_Goes.step (fun tq kq => XS.goto X0.here hx rfl (pc0 := 19) (pc' := 65) rfl (hb hby d1_19) (by decide) (by decide) kq) ?_
        show own_Goes _ _ _ _ _ _ _ (s₁.setTop (mkF m 65 #[.val (.int x0), .val (.int (x0 - (48 : Int32)))] []))
        rw [show (own_f1_1 x0) = (x0 - (48 : Int32)) from by simp only [own_f1_1, if_neg hc1, if_neg hc8]] at J15
        exact J15
  obtain ⟨t2, o2, q1, q2, q3, q4⟩ := hgo
  exact ⟨t2, o2, castTop (ef_1 m x0 ) q1, q2, q3, q4⟩

theorem own_lowers : (∀ c ∈ "0123456789abcdef".toList, c.toNat < 256) ∧ "0123456789abcdef".toList.map (fun c => Value.int (Jvm.Lit.byteI c.toNat.toUInt16)) = (List.range 16).map (fun i => Value.int (own_lo i)) := ⟨by decide, by decide +kernel⟩
theorem own_uppers : (∀ c ∈ "0123456789ABCDEF".toList, c.toNat < 256) ∧ "0123456789ABCDEF".toList.map (fun c => Value.int (Jvm.Lit.byteI c.toNat.toUInt16)) = (List.range 16).map (fun i => Value.int (own_up i)) := ⟨by decide, by decide +kernel⟩
theorem own_arv {Z : State} {h : Heap} {b : Addr} {k : ClassId} {f : Nat → Int32} (A : Arv Z h b k .byte (16 : Int32) ((List.range 16).map fun i => Value.int (f i)) (.int 0)) : own_Ar Z h b .byte 16 (fun uu => .int (f uu)) := by
  obtain ⟨c, A, -, sz, -, H, -⟩ := A
  have s16 : c.slots.size = 16 := sz
  refine ⟨c, A, s16, fun i hi => ?_⟩
  rw [H i (by omega)]
  simp [List.getD, hi]
theorem own_tab : ∀ n : Fin 55, own_f1 (Int32.ofNat (48 + n.val)) = (-1 : Int32) ∨ (0 ≤ (own_f1 (Int32.ofNat (48 + n.val))).toInt ∧ (own_f1 (Int32.ofNat (48 + n.val))).toInt ≤ 15 ∧ (Int32.ofNat (48 + n.val) = own_cl (own_f1 (Int32.ofNat (48 + n.val))) ∨ Int32.ofNat (48 + n.val) = own_cu (own_f1 (Int32.ofNat (48 + n.val))))) := by decide +kernel
theorem own_hex (x : Int32) : own_f1 x = (-1 : Int32) ∨ (0 ≤ (own_f1 x).toInt ∧ (own_f1 x).toInt ≤ 15 ∧ (x = own_cl (own_f1 x) ∨ x = own_cu (own_f1 x))) := by
  have k48 : (48 : Int32).toInt = 48 := rfl
  have k57 : (57 : Int32).toInt = 57 := rfl
  have k97 : (97 : Int32).toInt = 97 := rfl
  have k102 : (102 : Int32).toInt = 102 := rfl
  have k65 : (65 : Int32).toInt = 65 := rfl
  have k70 : (70 : Int32).toInt = 70 := rfl
  by_cases h1 : x.toInt < 48
  · left
    have a1 : x < (48 : Int32) := by rw [own_lt32]; omega
    have a2 : x < (97 : Int32) := by rw [own_lt32]; omega
    have a3 : x < (65 : Int32) := by rw [own_lt32]; omega
    simp only [own_f1, own_f1_1, if_pos a1, if_pos a2, if_pos a3]
  · by_cases h2 : 102 < x.toInt
    · left
      have a1 : ¬ x < (48 : Int32) := by rw [own_lt32]; omega
      have a2 : ¬ x < (97 : Int32) := by rw [own_lt32]; omega
      have a3 : ¬ x < (65 : Int32) := by rw [own_lt32]; omega
      have a4 : (57 : Int32) < x := by rw [own_lt32]; omega
      have a5 : (102 : Int32) < x := by rw [own_lt32]; omega
      have a6 : (70 : Int32) < x := by rw [own_lt32]; omega
      simp only [own_f1, own_f1_1, if_neg a1, if_neg a2, if_neg a3, if_pos a4, if_pos a5, if_pos a6]
    · have e : x = Int32.ofNat (48 + (x.toInt - 48).toNat) := by
        rw [own_eq32, Int32.toInt_ofNat_of_lt (by omega)]
        omega
      have t := own_tab ⟨(x.toInt - 48).toNat, by omega⟩
      rw [← e] at t
      exact t
theorem own_v0 (x : Int32) (h : ¬ own_f1 x = (-1 : Int32)) : ¬ own_f1 x < (0 : Int32) := by
  have t := (own_hex x).resolve_left h
  rw [own_lt32, Int32.toInt_zero]
  omega
theorem own_v15 (x : Int32) (h : ¬ own_f1 x = (-1 : Int32)) : ¬ (15 : Int32) < own_f1 x := by
  have t := (own_hex x).resolve_left h
  have k : (15 : Int32).toInt = 15 := rfl
  rw [own_lt32, k]
  omega
theorem own_vi (x : Int32) (h : ¬ own_f1 x = (-1 : Int32)) : (own_f1 x).toInt = ((own_f1 x).toInt.toNat : Nat) ∧ (own_f1 x).toInt.toNat < 16 := by
  have t := (own_hex x).resolve_left h
  omega
theorem own_vu (x : Int32) (h : ¬ own_f1 x = (-1 : Int32)) (h' : ¬ x = own_cl (own_f1 x)) : x = own_cu (own_f1 x) := ((own_hex x).resolve_left h).2.2.resolve_left h'
def own_ix (x : Int32) : Int32 := (x &&& (2147483647 : Int32)) % (22 : Int32)
theorem own_ixb (x : Int32) : 0 ≤ (own_ix x).toInt ∧ (own_ix x).toInt < 22 := by
  have a : (x &&& (2147483647 : Int32)).toInt = x.toInt % 2 ^ 31 := Jvm.Kit.i32_mask _ _ (k := 31) (by decide) (by decide)
  have k : (22 : Int32).toInt = 22 := rfl
  unfold own_ix
  rw [Int32.toInt_mod, a, k]
  have b : 0 ≤ x.toInt % 2 ^ 31 := Int.emod_nonneg _ (by decide)
  rw [Int.tmod_eq_emod_of_nonneg b]
  omega
theorem own_tab2 : ∀ n : Fin 22, (Int32.ofNat n.val < (16 : Int32) → own_f1 (own_cl (Int32.ofNat n.val)) = Int32.ofNat n.val) ∧ (¬ Int32.ofNat n.val < (16 : Int32) → own_f1 (own_cu (Int32.ofNat n.val - (6 : Int32))) = Int32.ofNat n.val - (6 : Int32)) := by decide +kernel
theorem own_dd (x : Int32) : (own_ix x < (16 : Int32) → own_f1 (own_cl (own_ix x)) = own_ix x) ∧ (¬ own_ix x < (16 : Int32) → own_f1 (own_cu (own_ix x - (6 : Int32))) = own_ix x - (6 : Int32)) := by
  have b := own_ixb x
  have e : own_ix x = Int32.ofNat (own_ix x).toInt.toNat := by
    rw [own_eq32, Int32.toInt_ofNat_of_lt (by omega)]
    omega
  have t := own_tab2 ⟨(own_ix x).toInt.toNat, by omega⟩
  rw [← e] at t
  exact t
theorem own_i1 (x : Int32) (h : own_ix x < (16 : Int32)) : (own_ix x).toInt = ((own_ix x).toInt.toNat : Nat) ∧ (own_ix x).toInt.toNat < 16 := by
  have b := own_ixb x
  have k : (16 : Int32).toInt = 16 := rfl
  rw [own_lt32, k] at h
  omega
theorem own_i2 (x : Int32) (h : ¬ own_ix x < (16 : Int32)) : (own_ix x - (6 : Int32)).toInt = ((own_ix x - (6 : Int32)).toInt.toNat : Nat) ∧ (own_ix x - (6 : Int32)).toInt.toNat < 16 := by
  have b := own_ixb x
  have k : (16 : Int32).toInt = 16 := rfl
  have k6 : (6 : Int32).toInt = 6 := rfl
  rw [own_lt32, k] at h
  have e : (own_ix x - (6 : Int32)).toInt = (own_ix x).toInt - 6 := by rw [Jvm.Kit.i32_sub (by rw [k6]; omega) (by rw [k6]; omega), k6]
  omega
theorem pn_0 : plainName "com/example/librobots/librobots/robots/UrlPathsHexDigitPinLaw" = true := by first | (simp [plainName, overriddenIn]; done) | decide +kernel
theorem ef_0 (m : MethodId) (x0 x1 : Int32) : entryFrame m #[(.int x0), (.int x1)] maxLocals = mkF m 0 #[.val (.int x0), .val (.int x1), .unset, .unset, .unset, .unset, .unset, .unset, .unset] [] := by first | (simp [entryFrame, mkF, argsToLocals, Value.category, maxLocals]; done) | rfl
def own_F0 (h2 : Heap) (v : Option Value) (h : Heap) (L : List Loc) : Prop := v = some (.int 1) ∧ L = [] ∧ h = h2
set_option maxRecDepth 65536 in
set_option maxHeartbeats 40000000 in
theorem own_m0 (l : Launch) (Z : State) (a0 : Array Value) (hw : ∀ d ∈ tables_1, d.before a0 Z = true) (ws : List Jvm.Cond) (x0 x1 : Int32) (G1 : Int32) (G3 : Value) (O2 : Sta Z Z.heap "java/lang/String" "COMPACT_STRINGS" "Z" (.int G1)) (P5 : ¬ G1 = (0 : Int32)) (O4 : Sta Z Z.heap "jdk/internal/util/Preconditions" "SIOOBE_FORMATTER" "Ljava/util/function/BiFunction;" G3) (rG3 : G3.isRef = true) (hcw : Jvm.Lit.compactW.before a0 Z = true) (hh7 : Jvm.Lit.constHeld Z "com/example/librobots/librobots/robots/UrlPathsHexDigitPinLaw" 7) (hh9 : Jvm.Lit.constHeld Z "com/example/librobots/librobots/robots/UrlPathsHexDigitPinLaw" 9) :
    MetFree l x (head1 (Jvm.Cond.code x code maxLocals ret :: ws) room_1) (fun a U => a = #[(.int x0), (.int x1)] ∧ U.vm = Z.vm ∧ U.heap = Z.heap) (fun _ _ _ _ _ => True) (fun _ U o U' => o = .returned (some (.int 1)) ∧ ReturnedEndW U o U' [] 8 2112) := by
  refine MetFree.of_bodySF (plainFor_of_name pn_0) hisR ?_
  intro p e s m args below meth c s₁ Bd hml0 hP hK
  obtain ⟨rfl, hv, hh⟩ := hP
  have hx := Bd.exec
  have hby := Bd.bytes
  have hml : c.maxLocals = 9 := hml0
  have hown : s.vm.findClass "com/example/librobots/librobots/robots/UrlPathsHexDigitPinLaw" = some m.cls := findClass_of_methodNamed Bd.named
  have hnm := (name_of_methodNamed Bd.named Bd.method).1
  have X0 : Stand p l e room_1 (s.setVm s.vm) m #[(.int x0), (.int x1)] below meth c s₁ [] 0 0 := Stand.of_body Bd
  have e0 : s₁.heap = Z.heap := by rw [← hh, Bd.state]; rfl
  have hZ0 : Z.Warmed39 s.vm := by rw [hv]; exact State.Warmed39.refl Z
  have hI0 : IB Z s.vm [] := by rw [hv]; exact IB.start
  have hkeep : ∀ (b : Addr) (cl : Cell), Z.heap[b]? = some cl → s.heap[b]? = some cl := fun b cl q => by rw [hh]; exact q
  have wS : ∀ d ∈ Bundle.stringAtoms, d.before a0 Z = true := fun d hd => by
    simp only [Bundle.stringAtoms, List.mem_cons, List.not_mem_nil, or_false] at hd
    rcases hd with rfl | rfl | rfl | rfl | rfl | rfl | rfl
    · exact own_at hw 1 rfl
    · exact own_at hw 2 rfl
    · exact own_at hw 3 rfl
    · exact own_at hw 4 rfl
    · exact own_at hw 5 rfl
    · exact own_at hw 6 rfl
    · exact own_at hw 7 rfl
  have S0 : s.Since s.vm 0 := (State.WarmedH.refl s).since 0
  obtain ⟨a1, T1, h1, k1, b1, c1, X1, e1, E1, S1, g1, W1, o1, EX1, FC1, FV1, A1, -, -, I1, st1⟩ := ldcSV X0 hx hZ0 hown (own_at hw 0 rfl) wS e0 S0 (Nat.zero_le _) (Fr.nil _) hkeep hI0 (by decide) hh7 hcw own_lowers (z := (16 : Int32)) (by decide) (by decide) (g := (mkF m 0 #[.val (.int x0), .val (.int x1), .unset, .unset, .unset, .unset, .unset, .unset, .unset] [])) rfl (hb hby at_0) (n := 64) (by decide) (by decide) (by decide) (by decide)
  obtain ⟨a2, T2, h2, k2, b2, c2, X2, e2, E2, S2, g2, W2, o2, EX2, FC2, FV2, A2, -, -, I2, st2⟩ := ldcSV X1 hx W1 o1 (own_at hw 8 rfl) wS e1 S1 g1 (Fr.nil _) hkeep I1 (by decide) hh9 hcw own_uppers (z := (16 : Int32)) (by decide) (by decide) (g := (mkF m 3 #[.val (.int x0), .val (.int x1), .val (.ref a1), .unset, .unset, .unset, .unset, .unset, .unset] [])) rfl (hb hby at_3) (n := 64) (by decide) (by decide) (by decide) (by decide)
  have RB1 := (own_arv A1).ext E2
  have RB2 := own_arv A2
  have EX1 := Jvm.RoadKit.Exa.ext E2 EX1
  have FC1 := Jvm.RoadKit.Fld.ext E2 FC1
  have FV1 := Jvm.RoadKit.Fld.ext E2 FV1
  have O2 := Sta.ext E2 (Sta.ext E1 O2)
  have O4 := Sta.ext E2 (Sta.ext E1 O4)
  obtain ⟨s2, hs2⟩ : ∃ z, z = s.setVm T2.vm := ⟨_, rfl⟩
  rw [← hs2] at X2 W2 o2
  have hZ := W2
  have hown := o2
  have hgo : own_Goes p e below s2 (own_F0 h2) 8 2112 (s₁.setTop (mkF m 0 #[.val (.int x0), .val (.int x1), .unset, .unset, .unset, .unset, .unset, .unset, .unset] [])) := by
    refine own_Goes.step st1 ?_
    show own_Goes _ _ _ _ _ _ _ (T1.setTop (mkF m 2 #[.val (.int x0), .val (.int x1), .unset, .unset, .unset, .unset, .unset, .unset, .unset] [(.ref a1)]))
    refine own_Goes.step (fun tq kq => XS.astoreN X1.here hx rfl (hb hby at_2) rfl rfl (l' := #[.val (.int x0), .val (.int x1), .val (.ref a1), .unset, .unset, .unset, .unset, .unset, .unset]) rfl kq) ?_
    show own_Goes _ _ _ _ _ _ _ (T1.setTop (mkF m 3 #[.val (.int x0), .val (.int x1), .val (.ref a1), .unset, .unset, .unset, .unset, .unset, .unset] []))
    refine own_Goes.step st2 ?_
    show own_Goes _ _ _ _ _ _ _ (T2.setTop (mkF m 5 #[.val (.int x0), .val (.int x1), .val (.ref a1), .unset, .unset, .unset, .unset, .unset, .unset] [(.ref a2)]))
    refine own_Goes.step (fun tq kq => XS.astoreN X2.here hx rfl (hb hby at_5) rfl rfl (l' := #[.val (.int x0), .val (.int x1), .val (.ref a1), .val (.ref a2), .unset, .unset, .unset, .unset, .unset]) rfl kq) ?_
    show own_Goes _ _ _ _ _ _ _ (T2.setTop (mkF m 6 #[.val (.int x0), .val (.int x1), .val (.ref a1), .val (.ref a2), .unset, .unset, .unset, .unset, .unset] []))
    refine own_Goes.step (fun tq kq => XS.iloadN X2.here hx rfl (hb hby at_6) rfl kq) ?_
    show own_Goes _ _ _ _ _ _ _ (T2.setTop (mkF m 7 #[.val (.int x0), .val (.int x1), .val (.ref a1), .val (.ref a2), .unset, .unset, .unset, .unset, .unset] [(.int x0)]))
    obtain ⟨w1, T1, L1, q1, Y1, st1⟩ := own_stat X2 hx hZ e2 hown (own_at hw 9 rfl) (own_at hw 10 rfl) (own_at hw 11 rfl) (own_at hw 12 rfl) (by decide) (own_m1 l Z a0 hw [] x0 h2 ) (by decide) (W := 0) (by decide) (by decide) (by decide) (g := (mkF m 7 #[.val (.int x0), .val (.int x1), .val (.ref a1), .val (.ref a2), .unset, .unset, .unset, .unset, .unset] [(.int x0)])) rfl (by rw [hml]; rfl) (argsL := [(.int x0)]) (rest := []) (lenOf pd_1 rfl) rfl (by show 2 * 0 + _ ≤ _; exact Nat.le_of_eq rfl) (hb hby at_7)
    obtain ⟨e1, X1⟩ := own_clean q1 Y1 rfl rfl
    obtain ⟨rfl, -, -⟩ := q1
    refine own_Goes.step st1 ?_
    show own_Goes _ _ _ _ _ _ _ (T1.setTop (mkF m 10 #[.val (.int x0), .val (.int x1), .val (.ref a1), .val (.ref a2), .unset, .unset, .unset, .unset, .unset] [(.int (own_f1 x0))]))
    refine own_Goes.step (fun tq kq => XS.istore X1.here hx rfl (hb hby at_10) rfl (l' := #[.val (.int x0), .val (.int x1), .val (.ref a1), .val (.ref a2), .val (.int (own_f1 x0)), .unset, .unset, .unset, .unset]) rfl kq) ?_
    show own_Goes _ _ _ _ _ _ _ (T1.setTop (mkF m 12 #[.val (.int x0), .val (.int x1), .val (.ref a1), .val (.ref a2), .val (.int (own_f1 x0)), .unset, .unset, .unset, .unset] []))
    refine own_Goes.step (fun tq kq => XS.iload X1.here hx rfl (hb hby at_12) rfl kq) ?_
    show own_Goes _ _ _ _ _ _ _ (T1.setTop (mkF m 14 #[.val (.int x0), .val (.int x1), .val (.ref a1), .val (.ref a2), .val (.int (own_f1 x0)), .unset, .unset, .unset, .unset] [(.int (own_f1 x0))]))
    refine own_Goes.step (fun tq kq => XT.iconstV X1.here hx rfl (-1 : Int32) (hb hby at_14) (by decide) kq) ?_
    show own_Goes _ _ _ _ _ _ _ (T1.setTop (mkF m 15 #[.val (.int x0), .val (.int x1), .val (.ref a1), .val (.ref a2), .val (.int (own_f1 x0)), .unset, .unset, .unset, .unset] [(.int (-1 : Int32)), (.int (own_f1 x0))]))
    by_cases hc2 : (own_f1 x0) = (-1 : Int32)
    · refine own_Goes.step (fun tq kq => XS.icmpNo X1.here hx rfl (hb hby at_15) rfl (XT.ii_ne_f hc2) kq) ?_
      show own_Goes _ _ _ _ _ _ _ (T1.setTop (mkF m 18 #[.val (.int x0), .val (.int x1), .val (.ref a1), .val (.ref a2), .val (.int (own_f1 x0)), .unset, .unset, .unset, .unset] []))
      refine own_Goes.step (fun tq kq => XT.iconstV X1.here hx rfl (1 : Int32) (hb hby at_18) (by decide) kq) ?_
      show own_Goes _ _ _ _ _ _ _ (T1.setTop (mkF m 19 #[.val (.int x0), .val (.int x1), .val (.ref a1), .val (.ref a2), .val (.int (own_f1 x0)), .unset, .unset, .unset, .unset] [(.int (1 : Int32))]))
      refine own_Goes.step (fun tq kq => XS.istore X1.here hx rfl (hb hby at_19) rfl (l' := #[.val (.int x0), .val (.int x1), .val (.ref a1), .val (.ref a2), .val (.int (own_f1 x0)), .val (.int (1 : Int32)), .unset, .unset, .unset]) rfl kq) ?_
      show own_Goes _ _ _ _ _ _ _ (T1.setTop (mkF m 21 #[.val (.int x0), .val (.int x1), .val (.ref a1), .val (.ref a2), .val (.int (own_f1 x0)), .val (.int (1 : Int32)), .unset, .unset, .unset] []))
      refine own_Goes.step (fun tq kq => XS.goto X1.here hx rfl (pc0 := 21) (pc' := 69) rfl (hb hby at_21) (by decide) (by decide) kq) ?_
      show own_Goes _ _ _ _ _ _ _ (T1.setTop (mkF m 69 #[.val (.int x0), .val (.int x1), .val (.ref a1), .val (.ref a2), .val (.int (own_f1 x0)), .val (.int (1 : Int32)), .unset, .unset, .unset] []))
      refine own_Goes.step (fun tq kq => XS.iloadN X1.here hx rfl (hb hby at_69) rfl kq) ?_
      show own_Goes _ _ _ _ _ _ _ (T1.setTop (mkF m 70 #[.val (.int x0), .val (.int x1), .val (.ref a1), .val (.ref a2), .val (.int (own_f1 x0)), .val (.int (1 : Int32)), .unset, .unset, .unset] [(.int x1)]))
      refine own_Goes.step (fun tq kq => X1.ldcI hx hown (mvT hZ (own_at hw 13 rfl)) rfl (hb hby at_70) kq) ?_
      show own_Goes _ _ _ _ _ _ _ (T1.setTop (mkF m 72 #[.val (.int x0), .val (.int x1), .val (.ref a1), .val (.ref a2), .val (.int (own_f1 x0)), .val (.int (1 : Int32)), .unset, .unset, .unset] [(.int (2147483647 : Int32)), (.int x1)]))
      refine own_Goes.step (fun tq kq => XS.iand X1.here hx rfl (hb hby at_72) rfl kq) ?_
      show own_Goes _ _ _ _ _ _ _ (T1.setTop (mkF m 73 #[.val (.int x0), .val (.int x1), .val (.ref a1), .val (.ref a2), .val (.int (own_f1 x0)), .val (.int (1 : Int32)), .unset, .unset, .unset] [(.int (x1 &&& (2147483647 : Int32)))]))
      refine own_Goes.step (fun tq kq => XT.bipushV X1.here hx rfl (22 : Int32) (hb hby at_73) (by decide) kq) ?_
      show own_Goes _ _ _ _ _ _ _ (T1.setTop (mkF m 75 #[.val (.int x0), .val (.int x1), .val (.ref a1), .val (.ref a2), .val (.int (own_f1 x0)), .val (.int (1 : Int32)), .unset, .unset, .unset] [(.int (22 : Int32)), (.int (x1 &&& (2147483647 : Int32)))]))
      refine own_Goes.step (fun tq kq => iremM X1 hx rfl (hb hby at_75) rfl (by decide) kq) ?_
      show own_Goes _ _ _ _ _ _ _ (T1.setTop (mkF m 76 #[.val (.int x0), .val (.int x1), .val (.ref a1), .val (.ref a2), .val (.int (own_f1 x0)), .val (.int (1 : Int32)), .unset, .unset, .unset] [(.int ((x1 &&& (2147483647 : Int32)) % (22 : Int32)))]))
      refine own_Goes.step (fun tq kq => XS.istore X1.here hx rfl (hb hby at_76) rfl (l' := #[.val (.int x0), .val (.int x1), .val (.ref a1), .val (.ref a2), .val (.int (own_f1 x0)), .val (.int (1 : Int32)), .val (.int ((x1 &&& (2147483647 : Int32)) % (22 : Int32))), .unset, .unset]) rfl kq) ?_
      show own_Goes _ _ _ _ _ _ _ (T1.setTop (mkF m 78 #[.val (.int x0), .val (.int x1), .val (.ref a1), .val (.ref a2), .val (.int (own_f1 x0)), .val (.int (1 : Int32)), .val (.int ((x1 &&& (2147483647 : Int32)) % (22 : Int32))), .unset, .unset] []))
      rw [show ((x1 &&& (2147483647 : Int32)) % (22 : Int32)) = (own_ix x1) from rfl]
      show own_Goes _ _ _ _ _ _ _ (T1.setTop (mkF m 78 #[.val (.int x0), .val (.int x1), .val (.ref a1), .val (.ref a2), .val (.int (own_f1 x0)), .val (.int (1 : Int32)), .val (.int (own_ix x1)), .unset, .unset] []))
      refine own_Goes.step (fun tq kq => XS.iload X1.here hx rfl (hb hby at_78) rfl kq) ?_
      show own_Goes _ _ _ _ _ _ _ (T1.setTop (mkF m 80 #[.val (.int x0), .val (.int x1), .val (.ref a1), .val (.ref a2), .val (.int (own_f1 x0)), .val (.int (1 : Int32)), .val (.int (own_ix x1)), .unset, .unset] [(.int (own_ix x1))]))
      refine own_Goes.step (fun tq kq => XT.bipushV X1.here hx rfl (16 : Int32) (hb hby at_80) (by decide) kq) ?_
      show own_Goes _ _ _ _ _ _ _ (T1.setTop (mkF m 82 #[.val (.int x0), .val (.int x1), .val (.ref a1), .val (.ref a2), .val (.int (own_f1 x0)), .val (.int (1 : Int32)), .val (.int (own_ix x1)), .unset, .unset] [(.int (16 : Int32)), (.int (own_ix x1))]))
      by_cases hc3 : (own_ix x1) < (16 : Int32)
      · refine own_Goes.step (fun tq kq => XS.icmpNo X1.here hx rfl (hb hby at_82) rfl (XT.ii_ge_f hc3) kq) ?_
        show own_Goes _ _ _ _ _ _ _ (T1.setTop (mkF m 85 #[.val (.int x0), .val (.int x1), .val (.ref a1), .val (.ref a2), .val (.int (own_f1 x0)), .val (.int (1 : Int32)), .val (.int (own_ix x1)), .unset, .unset] []))
        refine own_Goes.step (fun tq kq => XS.aloadN X1.here hx rfl (hb hby at_85) rfl rfl kq) ?_
        show own_Goes _ _ _ _ _ _ _ (T1.setTop (mkF m 86 #[.val (.int x0), .val (.int x1), .val (.ref a1), .val (.ref a2), .val (.int (own_f1 x0)), .val (.int (1 : Int32)), .val (.int (own_ix x1)), .unset, .unset] [(.ref a1)]))
        refine own_Goes.step (fun tq kq => XS.iload X1.here hx rfl (hb hby at_86) rfl kq) ?_
        show own_Goes _ _ _ _ _ _ _ (T1.setTop (mkF m 88 #[.val (.int x0), .val (.int x1), .val (.ref a1), .val (.ref a2), .val (.int (own_f1 x0)), .val (.int (1 : Int32)), .val (.int (own_ix x1)), .unset, .unset] [(.int (own_ix x1)), (.ref a1)]))
        obtain ⟨w4, T4, L4, q4, Y4, st4⟩ := own_virt X1 hx hZ e1 EX1 hown (own_at hw 14 rfl) (own_at hw 15 rfl) (own_at hw 17 rfl) (own_at hw 16 rfl) (own_at hw 1 rfl) (own_at hw 18 rfl) (by decide) (own_m2 l Z a0 hw [] a1 (own_ix x1) b1 G1 G3 own_lo ((own_ix x1)).toInt.toNat 0 h2 O2 P5 O4 rG3 EX1 FC1 FV1 RB1 (own_i1 x1 hc3).1 (own_i1 x1 hc3).2) (by decide) (W := 0) (by decide) (by decide) (by decide) (g := (mkF m 88 #[.val (.int x0), .val (.int x1), .val (.ref a1), .val (.ref a2), .val (.int (own_f1 x0)), .val (.int (1 : Int32)), .val (.int (own_ix x1)), .unset, .unset] [(.int (own_ix x1)), (.ref a1)])) rfl (by rw [hml]; rfl) (argsL := [(.int (own_ix x1))]) (rest := []) (lenOf pd_2 rfl) rfl (by show 2 * 0 + _ ≤ _; exact Nat.le_of_eq rfl) (hb hby at_88)
        obtain ⟨e4, X4⟩ := own_clean q4 Y4 rfl rfl
        obtain ⟨rfl, -, -⟩ := q4
        refine own_Goes.step st4 ?_
        show own_Goes _ _ _ _ _ _ _ (T4.setTop (mkF m 91 #[.val (.int x0), .val (.int x1), .val (.ref a1), .val (.ref a2), .val (.int (own_f1 x0)), .val (.int (1 : Int32)), .val (.int (own_ix x1)), .unset, .unset] [(.int (own_cl (own_ix x1)))]))
        refine own_Goes.step (fun tq kq => XS.istore X4.here hx rfl (hb hby at_91) rfl (l' := #[.val (.int x0), .val (.int x1), .val (.ref a1), .val (.ref a2), .val (.int (own_f1 x0)), .val (.int (1 : Int32)), .val (.int (own_ix x1)), .val (.int (own_cl (own_ix x1))), .unset]) rfl kq) ?_
        show own_Goes _ _ _ _ _ _ _ (T4.setTop (mkF m 93 #[.val (.int x0), .val (.int x1), .val (.ref a1), .val (.ref a2), .val (.int (own_f1 x0)), .val (.int (1 : Int32)), .val (.int (own_ix x1)), .val (.int (own_cl (own_ix x1))), .unset] []))
        refine own_Goes.step (fun tq kq => XS.iload X4.here hx rfl (hb hby at_93) rfl kq) ?_
        show own_Goes _ _ _ _ _ _ _ (T4.setTop (mkF m 95 #[.val (.int x0), .val (.int x1), .val (.ref a1), .val (.ref a2), .val (.int (own_f1 x0)), .val (.int (1 : Int32)), .val (.int (own_ix x1)), .val (.int (own_cl (own_ix x1))), .unset] [(.int (own_ix x1))]))
        refine own_Goes.step (fun tq kq => XS.istore X4.here hx rfl (hb hby at_95) rfl (l' := #[.val (.int x0), .val (.int x1), .val (.ref a1), .val (.ref a2), .val (.int (own_f1 x0)), .val (.int (1 : Int32)), .val (.int (own_ix x1)), .val (.int (own_cl (own_ix x1))), .val (.int (own_ix x1))]) rfl kq) ?_
        show own_Goes _ _ _ _ _ _ _ (T4.setTop (mkF m 97 #[.val (.int x0), .val (.int x1), .val (.ref a1), .val (.ref a2), .val (.int (own_f1 x0)), .val (.int (1 : Int32)), .val (.int (own_ix x1)), .val (.int (own_cl (own_ix x1))), .val (.int (own_ix x1))] []))
        refine own_Goes.step (fun tq kq => XS.goto X4.here hx rfl (pc0 := 97) (pc' := 118) rfl (hb hby at_97) (by decide) (by decide) kq) ?_
        show own_Goes _ _ _ _ _ _ _ (T4.setTop (mkF m 118 #[.val (.int x0), .val (.int x1), .val (.ref a1), .val (.ref a2), .val (.int (own_f1 x0)), .val (.int (1 : Int32)), .val (.int (own_ix x1)), .val (.int (own_cl (own_ix x1))), .val (.int (own_ix x1))] []))
        refine own_Goes.step (fun tq kq => XS.iload X4.here hx rfl (hb hby at_118) rfl kq) ?_
        show own_Goes _ _ _ _ _ _ _ (T4.setTop (mkF m 120 #[.val (.int x0), .val (.int x1), .val (.ref a1), .val (.ref a2), .val (.int (own_f1 x0)), .val (.int (1 : Int32)), .val (.int (own_ix x1)), .val (.int (own_cl (own_ix x1))), .val (.int (own_ix x1))] [(.int (1 : Int32))]))
        refine own_Goes.step (fun tq kq => XS.ifNo X4.here hx rfl (hb hby at_120) rfl (XT.i0_eq_f (by decide)) kq) ?_
        show own_Goes _ _ _ _ _ _ _ (T4.setTop (mkF m 123 #[.val (.int x0), .val (.int x1), .val (.ref a1), .val (.ref a2), .val (.int (own_f1 x0)), .val (.int (1 : Int32)), .val (.int (own_ix x1)), .val (.int (own_cl (own_ix x1))), .val (.int (own_ix x1))] []))
        refine own_Goes.step (fun tq kq => XS.iload X4.here hx rfl (hb hby at_123) rfl kq) ?_
        show own_Goes _ _ _ _ _ _ _ (T4.setTop (mkF m 125 #[.val (.int x0), .val (.int x1), .val (.ref a1), .val (.ref a2), .val (.int (own_f1 x0)), .val (.int (1 : Int32)), .val (.int (own_ix x1)), .val (.int (own_cl (own_ix x1))), .val (.int (own_ix x1))] [(.int (own_cl (own_ix x1)))]))
        obtain ⟨w5, T5, L5, q5, Y5, st5⟩ := own_stat X4 hx hZ e4 hown (own_at hw 9 rfl) (own_at hw 10 rfl) (own_at hw 11 rfl) (own_at hw 12 rfl) (by decide) (own_m1 l Z a0 hw [] (own_cl (own_ix x1)) h2 ) (by decide) (W := 0) (by decide) (by decide) (by decide) (g := (mkF m 125 #[.val (.int x0), .val (.int x1), .val (.ref a1), .val (.ref a2), .val (.int (own_f1 x0)), .val (.int (1 : Int32)), .val (.int (own_ix x1)), .val (.int (own_cl (own_ix x1))), .val (.int (own_ix x1))] [(.int (own_cl (own_ix x1)))])) rfl (by rw [hml]; rfl) (argsL := [(.int (own_cl (own_ix x1)))]) (rest := []) (lenOf pd_1 rfl) rfl (by show 2 * 0 + _ ≤ _; exact Nat.le_of_eq rfl) (hb hby at_125)
        obtain ⟨e5, X5⟩ := own_clean q5 Y5 rfl rfl
        obtain ⟨rfl, -, -⟩ := q5
        refine own_Goes.step st5 ?_
        show own_Goes _ _ _ _ _ _ _ (T5.setTop (mkF m 128 #[.val (.int x0), .val (.int x1), .val (.ref a1), .val (.ref a2), .val (.int (own_f1 x0)), .val (.int (1 : Int32)), .val (.int (own_ix x1)), .val (.int (own_cl (own_ix x1))), .val (.int (own_ix x1))] [(.int (own_f1 (own_cl (own_ix x1))))]))
        refine own_Goes.step (fun tq kq => XS.iload X5.here hx rfl (hb hby at_128) rfl kq) ?_
        show own_Goes _ _ _ _ _ _ _ (T5.setTop (mkF m 130 #[.val (.int x0), .val (.int x1), .val (.ref a1), .val (.ref a2), .val (.int (own_f1 x0)), .val (.int (1 : Int32)), .val (.int (own_ix x1)), .val (.int (own_cl (own_ix x1))), .val (.int (own_ix x1))] [(.int (own_ix x1)), (.int (own_f1 (own_cl (own_ix x1))))]))
        refine own_Goes.step (fun tq kq => XS.icmpNo X5.here hx rfl (hb hby at_130) rfl (XT.ii_ne_f ((own_dd x1).1 hc3)) kq) ?_
        show own_Goes _ _ _ _ _ _ _ (T5.setTop (mkF m 133 #[.val (.int x0), .val (.int x1), .val (.ref a1), .val (.ref a2), .val (.int (own_f1 x0)), .val (.int (1 : Int32)), .val (.int (own_ix x1)), .val (.int (own_cl (own_ix x1))), .val (.int (own_ix x1))] []))
        refine own_Goes.step (fun tq kq => XT.iconstV X5.here hx rfl (1 : Int32) (hb hby at_133) (by decide) kq) ?_
        show own_Goes _ _ _ _ _ _ _ (T5.setTop (mkF m 134 #[.val (.int x0), .val (.int x1), .val (.ref a1), .val (.ref a2), .val (.int (own_f1 x0)), .val (.int (1 : Int32)), .val (.int (own_ix x1)), .val (.int (own_cl (own_ix x1))), .val (.int (own_ix x1))] [(.int (1 : Int32))]))
        refine own_Goes.step (fun tq kq => XS.goto X5.here hx rfl (pc0 := 134) (pc' := 138) rfl (hb hby at_134) (by decide) (by decide) kq) ?_
        show own_Goes _ _ _ _ _ _ _ (T5.setTop (mkF m 138 #[.val (.int x0), .val (.int x1), .val (.ref a1), .val (.ref a2), .val (.int (own_f1 x0)), .val (.int (1 : Int32)), .val (.int (own_ix x1)), .val (.int (own_cl (own_ix x1))), .val (.int (own_ix x1))] [(.int (1 : Int32))]))
        exact own_endN X5 hx Bd.notSynchronized (t := .boolean) Bd.returns (by simp) (hb hby at_138) ⟨rfl, rfl, e5⟩ (by decide) (by decide)
      · refine own_Goes.step (fun tq kq => XS.icmpYes X1.here hx rfl (pc0 := 82) (pc' := 100) rfl (hb hby at_82) rfl (XT.ii_ge_t hc3) (by decide) (by decide) kq) ?_
        show own_Goes _ _ _ _ _ _ _ (T1.setTop (mkF m 100 #[.val (.int x0), .val (.int x1), .val (.ref a1), .val (.ref a2), .val (.int (own_f1 x0)), .val (.int (1 : Int32)), .val (.int (own_ix x1)), .unset, .unset] []))
        refine own_Goes.step (fun tq kq => XS.aloadN X1.here hx rfl (hb hby at_100) rfl rfl kq) ?_
        show own_Goes _ _ _ _ _ _ _ (T1.setTop (mkF m 101 #[.val (.int x0), .val (.int x1), .val (.ref a1), .val (.ref a2), .val (.int (own_f1 x0)), .val (.int (1 : Int32)), .val (.int (own_ix x1)), .unset, .unset] [(.ref a2)]))
        refine own_Goes.step (fun tq kq => XS.iload X1.here hx rfl (hb hby at_101) rfl kq) ?_
        show own_Goes _ _ _ _ _ _ _ (T1.setTop (mkF m 103 #[.val (.int x0), .val (.int x1), .val (.ref a1), .val (.ref a2), .val (.int (own_f1 x0)), .val (.int (1 : Int32)), .val (.int (own_ix x1)), .unset, .unset] [(.int (own_ix x1)), (.ref a2)]))
        refine own_Goes.step (fun tq kq => XT.bipushV X1.here hx rfl (6 : Int32) (hb hby at_103) (by decide) kq) ?_
        show own_Goes _ _ _ _ _ _ _ (T1.setTop (mkF m 105 #[.val (.int x0), .val (.int x1), .val (.ref a1), .val (.ref a2), .val (.int (own_f1 x0)), .val (.int (1 : Int32)), .val (.int (own_ix x1)), .unset, .unset] [(.int (6 : Int32)), (.int (own_ix x1)), (.ref a2)]))
        refine own_Goes.step (fun tq kq => XS.isub X1.here hx rfl (hb hby at_105) rfl kq) ?_
        show own_Goes _ _ _ _ _ _ _ (T1.setTop (mkF m 106 #[.val (.int x0), .val (.int x1), .val (.ref a1), .val (.ref a2), .val (.int (own_f1 x0)), .val (.int (1 : Int32)), .val (.int (own_ix x1)), .unset, .unset] [(.int ((own_ix x1) - (6 : Int32))), (.ref a2)]))
        obtain ⟨w6, T6, L6, q6, Y6, st6⟩ := own_virt X1 hx hZ e1 EX2 hown (own_at hw 14 rfl) (own_at hw 15 rfl) (own_at hw 17 rfl) (own_at hw 16 rfl) (own_at hw 1 rfl) (own_at hw 18 rfl) (by decide) (own_m2 l Z a0 hw [] a2 ((own_ix x1) - (6 : Int32)) b2 G1 G3 own_up ((own_ix x1 - (6 : Int32))).toInt.toNat 0 h2 O2 P5 O4 rG3 EX2 FC2 FV2 RB2 (own_i2 x1 hc3).1 (own_i2 x1 hc3).2) (by decide) (W := 0) (by decide) (by decide) (by decide) (g := (mkF m 106 #[.val (.int x0), .val (.int x1), .val (.ref a1), .val (.ref a2), .val (.int (own_f1 x0)), .val (.int (1 : Int32)), .val (.int (own_ix x1)), .unset, .unset] [(.int ((own_ix x1) - (6 : Int32))), (.ref a2)])) rfl (by rw [hml]; rfl) (argsL := [(.int ((own_ix x1) - (6 : Int32)))]) (rest := []) (lenOf pd_2 rfl) rfl (by show 2 * 0 + _ ≤ _; exact Nat.le_of_eq rfl) (hb hby at_106)
        obtain ⟨e6, X6⟩ := own_clean q6 Y6 rfl rfl
        obtain ⟨rfl, -, -⟩ := q6
        refine own_Goes.step st6 ?_
        show own_Goes _ _ _ _ _ _ _ (T6.setTop (mkF m 109 #[.val (.int x0), .val (.int x1), .val (.ref a1), .val (.ref a2), .val (.int (own_f1 x0)), .val (.int (1 : Int32)), .val (.int (own_ix x1)), .unset, .unset] [(.int (own_cu (own_ix x1 - (6 : Int32))))]))
        refine own_Goes.step (fun tq kq => XS.istore X6.here hx rfl (hb hby at_109) rfl (l' := #[.val (.int x0), .val (.int x1), .val (.ref a1), .val (.ref a2), .val (.int (own_f1 x0)), .val (.int (1 : Int32)), .val (.int (own_ix x1)), .val (.int (own_cu (own_ix x1 - (6 : Int32)))), .unset]) rfl kq) ?_
        show own_Goes _ _ _ _ _ _ _ (T6.setTop (mkF m 111 #[.val (.int x0), .val (.int x1), .val (.ref a1), .val (.ref a2), .val (.int (own_f1 x0)), .val (.int (1 : Int32)), .val (.int (own_ix x1)), .val (.int (own_cu (own_ix x1 - (6 : Int32)))), .unset] []))
        refine own_Goes.step (fun tq kq => XS.iload X6.here hx rfl (hb hby at_111) rfl kq) ?_
        show own_Goes _ _ _ _ _ _ _ (T6.setTop (mkF m 113 #[.val (.int x0), .val (.int x1), .val (.ref a1), .val (.ref a2), .val (.int (own_f1 x0)), .val (.int (1 : Int32)), .val (.int (own_ix x1)), .val (.int (own_cu (own_ix x1 - (6 : Int32)))), .unset] [(.int (own_ix x1))]))
        refine own_Goes.step (fun tq kq => XT.bipushV X6.here hx rfl (6 : Int32) (hb hby at_113) (by decide) kq) ?_
        show own_Goes _ _ _ _ _ _ _ (T6.setTop (mkF m 115 #[.val (.int x0), .val (.int x1), .val (.ref a1), .val (.ref a2), .val (.int (own_f1 x0)), .val (.int (1 : Int32)), .val (.int (own_ix x1)), .val (.int (own_cu (own_ix x1 - (6 : Int32)))), .unset] [(.int (6 : Int32)), (.int (own_ix x1))]))
        refine own_Goes.step (fun tq kq => XS.isub X6.here hx rfl (hb hby at_115) rfl kq) ?_
        show own_Goes _ _ _ _ _ _ _ (T6.setTop (mkF m 116 #[.val (.int x0), .val (.int x1), .val (.ref a1), .val (.ref a2), .val (.int (own_f1 x0)), .val (.int (1 : Int32)), .val (.int (own_ix x1)), .val (.int (own_cu (own_ix x1 - (6 : Int32)))), .unset] [(.int ((own_ix x1) - (6 : Int32)))]))
        refine own_Goes.step (fun tq kq => XS.istore X6.here hx rfl (hb hby at_116) rfl (l' := #[.val (.int x0), .val (.int x1), .val (.ref a1), .val (.ref a2), .val (.int (own_f1 x0)), .val (.int (1 : Int32)), .val (.int (own_ix x1)), .val (.int (own_cu (own_ix x1 - (6 : Int32)))), .val (.int ((own_ix x1) - (6 : Int32)))]) rfl kq) ?_
        show own_Goes _ _ _ _ _ _ _ (T6.setTop (mkF m 118 #[.val (.int x0), .val (.int x1), .val (.ref a1), .val (.ref a2), .val (.int (own_f1 x0)), .val (.int (1 : Int32)), .val (.int (own_ix x1)), .val (.int (own_cu (own_ix x1 - (6 : Int32)))), .val (.int ((own_ix x1) - (6 : Int32)))] []))
        refine own_Goes.step (fun tq kq => XS.iload X6.here hx rfl (hb hby at_118) rfl kq) ?_
        show own_Goes _ _ _ _ _ _ _ (T6.setTop (mkF m 120 #[.val (.int x0), .val (.int x1), .val (.ref a1), .val (.ref a2), .val (.int (own_f1 x0)), .val (.int (1 : Int32)), .val (.int (own_ix x1)), .val (.int (own_cu (own_ix x1 - (6 : Int32)))), .val (.int ((own_ix x1) - (6 : Int32)))] [(.int (1 : Int32))]))
        refine own_Goes.step (fun tq kq => XS.ifNo X6.here hx rfl (hb hby at_120) rfl (XT.i0_eq_f (by decide)) kq) ?_
        show own_Goes _ _ _ _ _ _ _ (T6.setTop (mkF m 123 #[.val (.int x0), .val (.int x1), .val (.ref a1), .val (.ref a2), .val (.int (own_f1 x0)), .val (.int (1 : Int32)), .val (.int (own_ix x1)), .val (.int (own_cu (own_ix x1 - (6 : Int32)))), .val (.int ((own_ix x1) - (6 : Int32)))] []))
        refine own_Goes.step (fun tq kq => XS.iload X6.here hx rfl (hb hby at_123) rfl kq) ?_
        show own_Goes _ _ _ _ _ _ _ (T6.setTop (mkF m 125 #[.val (.int x0), .val (.int x1), .val (.ref a1), .val (.ref a2), .val (.int (own_f1 x0)), .val (.int (1 : Int32)), .val (.int (own_ix x1)), .val (.int (own_cu (own_ix x1 - (6 : Int32)))), .val (.int ((own_ix x1) - (6 : Int32)))] [(.int (own_cu (own_ix x1 - (6 : Int32))))]))
        obtain ⟨w7, T7, L7, q7, Y7, st7⟩ := own_stat X6 hx hZ e6 hown (own_at hw 9 rfl) (own_at hw 10 rfl) (own_at hw 11 rfl) (own_at hw 12 rfl) (by decide) (own_m1 l Z a0 hw [] (own_cu (own_ix x1 - (6 : Int32))) h2 ) (by decide) (W := 0) (by decide) (by decide) (by decide) (g := (mkF m 125 #[.val (.int x0), .val (.int x1), .val (.ref a1), .val (.ref a2), .val (.int (own_f1 x0)), .val (.int (1 : Int32)), .val (.int (own_ix x1)), .val (.int (own_cu (own_ix x1 - (6 : Int32)))), .val (.int ((own_ix x1) - (6 : Int32)))] [(.int (own_cu (own_ix x1 - (6 : Int32))))])) rfl (by rw [hml]; rfl) (argsL := [(.int (own_cu (own_ix x1 - (6 : Int32))))]) (rest := []) (lenOf pd_1 rfl) rfl (by show 2 * 0 + _ ≤ _; exact Nat.le_of_eq rfl) (hb hby at_125)
        obtain ⟨e7, X7⟩ := own_clean q7 Y7 rfl rfl
        obtain ⟨rfl, -, -⟩ := q7
        refine own_Goes.step st7 ?_
        show own_Goes _ _ _ _ _ _ _ (T7.setTop (mkF m 128 #[.val (.int x0), .val (.int x1), .val (.ref a1), .val (.ref a2), .val (.int (own_f1 x0)), .val (.int (1 : Int32)), .val (.int (own_ix x1)), .val (.int (own_cu (own_ix x1 - (6 : Int32)))), .val (.int ((own_ix x1) - (6 : Int32)))] [(.int (own_f1 (own_cu (own_ix x1 - (6 : Int32)))))]))
        refine own_Goes.step (fun tq kq => XS.iload X7.here hx rfl (hb hby at_128) rfl kq) ?_
        show own_Goes _ _ _ _ _ _ _ (T7.setTop (mkF m 130 #[.val (.int x0), .val (.int x1), .val (.ref a1), .val (.ref a2), .val (.int (own_f1 x0)), .val (.int (1 : Int32)), .val (.int (own_ix x1)), .val (.int (own_cu (own_ix x1 - (6 : Int32)))), .val (.int ((own_ix x1) - (6 : Int32)))] [(.int ((own_ix x1) - (6 : Int32))), (.int (own_f1 (own_cu (own_ix x1 - (6 : Int32)))))]))
        refine own_Goes.step (fun tq kq => XS.icmpNo X7.here hx rfl (hb hby at_130) rfl (XT.ii_ne_f ((own_dd x1).2 hc3)) kq) ?_
        show own_Goes _ _ _ _ _ _ _ (T7.setTop (mkF m 133 #[.val (.int x0), .val (.int x1), .val (.ref a1), .val (.ref a2), .val (.int (own_f1 x0)), .val (.int (1 : Int32)), .val (.int (own_ix x1)), .val (.int (own_cu (own_ix x1 - (6 : Int32)))), .val (.int ((own_ix x1) - (6 : Int32)))] []))
        refine own_Goes.step (fun tq kq => XT.iconstV X7.here hx rfl (1 : Int32) (hb hby at_133) (by decide) kq) ?_
        show own_Goes _ _ _ _ _ _ _ (T7.setTop (mkF m 134 #[.val (.int x0), .val (.int x1), .val (.ref a1), .val (.ref a2), .val (.int (own_f1 x0)), .val (.int (1 : Int32)), .val (.int (own_ix x1)), .val (.int (own_cu (own_ix x1 - (6 : Int32)))), .val (.int ((own_ix x1) - (6 : Int32)))] [(.int (1 : Int32))]))
        refine own_Goes.step (fun tq kq => XS.goto X7.here hx rfl (pc0 := 134) (pc' := 138) rfl (hb hby at_134) (by decide) (by decide) kq) ?_
        show own_Goes _ _ _ _ _ _ _ (T7.setTop (mkF m 138 #[.val (.int x0), .val (.int x1), .val (.ref a1), .val (.ref a2), .val (.int (own_f1 x0)), .val (.int (1 : Int32)), .val (.int (own_ix x1)), .val (.int (own_cu (own_ix x1 - (6 : Int32)))), .val (.int ((own_ix x1) - (6 : Int32)))] [(.int (1 : Int32))]))
        exact own_endN X7 hx Bd.notSynchronized (t := .boolean) Bd.returns (by simp) (hb hby at_138) ⟨rfl, rfl, e7⟩ (by decide) (by decide)
    · refine own_Goes.step (fun tq kq => XS.icmpYes X1.here hx rfl (pc0 := 15) (pc' := 24) rfl (hb hby at_15) rfl (XT.ii_ne_t hc2) (by decide) (by decide) kq) ?_
      show own_Goes _ _ _ _ _ _ _ (T1.setTop (mkF m 24 #[.val (.int x0), .val (.int x1), .val (.ref a1), .val (.ref a2), .val (.int (own_f1 x0)), .unset, .unset, .unset, .unset] []))
      refine own_Goes.step (fun tq kq => XS.iload X1.here hx rfl (hb hby at_24) rfl kq) ?_
      show own_Goes _ _ _ _ _ _ _ (T1.setTop (mkF m 26 #[.val (.int x0), .val (.int x1), .val (.ref a1), .val (.ref a2), .val (.int (own_f1 x0)), .unset, .unset, .unset, .unset] [(.int (own_f1 x0))]))
      refine own_Goes.step (fun tq kq => XS.ifNo X1.here hx rfl (hb hby at_26) rfl (XT.i0_lt_f (own_v0 x0 hc2)) kq) ?_
      show own_Goes _ _ _ _ _ _ _ (T1.setTop (mkF m 29 #[.val (.int x0), .val (.int x1), .val (.ref a1), .val (.ref a2), .val (.int (own_f1 x0)), .unset, .unset, .unset, .unset] []))
      refine own_Goes.step (fun tq kq => XS.iload X1.here hx rfl (hb hby at_29) rfl kq) ?_
      show own_Goes _ _ _ _ _ _ _ (T1.setTop (mkF m 31 #[.val (.int x0), .val (.int x1), .val (.ref a1), .val (.ref a2), .val (.int (own_f1 x0)), .unset, .unset, .unset, .unset] [(.int (own_f1 x0))]))
      refine own_Goes.step (fun tq kq => XT.bipushV X1.here hx rfl (15 : Int32) (hb hby at_31) (by decide) kq) ?_
      show own_Goes _ _ _ _ _ _ _ (T1.setTop (mkF m 33 #[.val (.int x0), .val (.int x1), .val (.ref a1), .val (.ref a2), .val (.int (own_f1 x0)), .unset, .unset, .unset, .unset] [(.int (15 : Int32)), (.int (own_f1 x0))]))
      refine own_Goes.step (fun tq kq => XS.icmpNo X1.here hx rfl (hb hby at_33) rfl (XT.ii_gt_f (own_v15 x0 hc2)) kq) ?_
      show own_Goes _ _ _ _ _ _ _ (T1.setTop (mkF m 36 #[.val (.int x0), .val (.int x1), .val (.ref a1), .val (.ref a2), .val (.int (own_f1 x0)), .unset, .unset, .unset, .unset] []))
      refine own_Goes.step (fun tq kq => XS.iloadN X1.here hx rfl (hb hby at_36) rfl kq) ?_
      show own_Goes _ _ _ _ _ _ _ (T1.setTop (mkF m 37 #[.val (.int x0), .val (.int x1), .val (.ref a1), .val (.ref a2), .val (.int (own_f1 x0)), .unset, .unset, .unset, .unset] [(.int x0)]))
      refine own_Goes.step (fun tq kq => XS.aloadN X1.here hx rfl (hb hby at_37) rfl rfl kq) ?_
      show own_Goes _ _ _ _ _ _ _ (T1.setTop (mkF m 38 #[.val (.int x0), .val (.int x1), .val (.ref a1), .val (.ref a2), .val (.int (own_f1 x0)), .unset, .unset, .unset, .unset] [(.ref a1), (.int x0)]))
      refine own_Goes.step (fun tq kq => XS.iload X1.here hx rfl (hb hby at_38) rfl kq) ?_
      show own_Goes _ _ _ _ _ _ _ (T1.setTop (mkF m 40 #[.val (.int x0), .val (.int x1), .val (.ref a1), .val (.ref a2), .val (.int (own_f1 x0)), .unset, .unset, .unset, .unset] [(.int (own_f1 x0)), (.ref a1), (.int x0)]))
      obtain ⟨w8, T8, L8, q8, Y8, st8⟩ := own_virt X1 hx hZ e1 EX1 hown (own_at hw 14 rfl) (own_at hw 15 rfl) (own_at hw 17 rfl) (own_at hw 16 rfl) (own_at hw 1 rfl) (own_at hw 18 rfl) (by decide) (own_m2 l Z a0 hw [] a1 (own_f1 x0) b1 G1 G3 own_lo ((own_f1 x0)).toInt.toNat 0 h2 O2 P5 O4 rG3 EX1 FC1 FV1 RB1 (own_vi x0 hc2).1 (own_vi x0 hc2).2) (by decide) (W := 1) (by decide) (by decide) (by decide) (g := (mkF m 40 #[.val (.int x0), .val (.int x1), .val (.ref a1), .val (.ref a2), .val (.int (own_f1 x0)), .unset, .unset, .unset, .unset] [(.int (own_f1 x0)), (.ref a1), (.int x0)])) rfl (by rw [hml]; rfl) (argsL := [(.int (own_f1 x0))]) (rest := [(.int x0)]) (lenOf pd_2 rfl) rfl (by show 2 * 0 + _ ≤ _; exact Nat.le_of_eq rfl) (hb hby at_40)
      obtain ⟨e8, X8⟩ := own_clean q8 Y8 rfl rfl
      obtain ⟨rfl, -, -⟩ := q8
      refine own_Goes.step st8 ?_
      show own_Goes _ _ _ _ _ _ _ (T8.setTop (mkF m 43 #[.val (.int x0), .val (.int x1), .val (.ref a1), .val (.ref a2), .val (.int (own_f1 x0)), .unset, .unset, .unset, .unset] [(.int (own_cl (own_f1 x0))), (.int x0)]))
      by_cases hc9 : x0 = (own_cl (own_f1 x0))
      · refine own_Goes.step (fun tq kq => XS.icmpYes X8.here hx rfl (pc0 := 43) (pc' := 56) rfl (hb hby at_43) rfl (XT.ii_eq_t hc9) (by decide) (by decide) kq) ?_
        show own_Goes _ _ _ _ _ _ _ (T8.setTop (mkF m 56 #[.val (.int x0), .val (.int x1), .val (.ref a1), .val (.ref a2), .val (.int (own_f1 x0)), .unset, .unset, .unset, .unset] []))
        refine own_Goes.step (fun tq kq => XT.iconstV X8.here hx rfl (1 : Int32) (hb hby at_56) (by decide) kq) ?_
        show own_Goes _ _ _ _ _ _ _ (T8.setTop (mkF m 57 #[.val (.int x0), .val (.int x1), .val (.ref a1), .val (.ref a2), .val (.int (own_f1 x0)), .unset, .unset, .unset, .unset] [(.int (1 : Int32))]))
        refine own_Goes.step (fun tq kq => XS.goto X8.here hx rfl (pc0 := 57) (pc' := 61) rfl (hb hby at_57) (by decide) (by decide) kq) ?_
        show own_Goes _ _ _ _ _ _ _ (T8.setTop (mkF m 61 #[.val (.int x0), .val (.int x1), .val (.ref a1), .val (.ref a2), .val (.int (own_f1 x0)), .unset, .unset, .unset, .unset] [(.int (1 : Int32))]))
        refine own_Goes.step (fun tq kq => XS.istore X8.here hx rfl (hb hby at_61) rfl (l' := #[.val (.int x0), .val (.int x1), .val (.ref a1), .val (.ref a2), .val (.int (own_f1 x0)), .val (.int (1 : Int32)), .unset, .unset, .unset]) rfl kq) ?_
        show own_Goes _ _ _ _ _ _ _ (T8.setTop (mkF m 63 #[.val (.int x0), .val (.int x1), .val (.ref a1), .val (.ref a2), .val (.int (own_f1 x0)), .val (.int (1 : Int32)), .unset, .unset, .unset] []))
        refine own_Goes.step (fun tq kq => XS.goto X8.here hx rfl (pc0 := 63) (pc' := 69) rfl (hb hby at_63) (by decide) (by decide) kq) ?_
        show own_Goes _ _ _ _ _ _ _ (T8.setTop (mkF m 69 #[.val (.int x0), .val (.int x1), .val (.ref a1), .val (.ref a2), .val (.int (own_f1 x0)), .val (.int (1 : Int32)), .unset, .unset, .unset] []))
        refine own_Goes.step (fun tq kq => XS.iloadN X8.here hx rfl (hb hby at_69) rfl kq) ?_
        show own_Goes _ _ _ _ _ _ _ (T8.setTop (mkF m 70 #[.val (.int x0), .val (.int x1), .val (.ref a1), .val (.ref a2), .val (.int (own_f1 x0)), .val (.int (1 : Int32)), .unset, .unset, .unset] [(.int x1)]))
        refine own_Goes.step (fun tq kq => X8.ldcI hx hown (mvT hZ (own_at hw 13 rfl)) rfl (hb hby at_70) kq) ?_
        show own_Goes _ _ _ _ _ _ _ (T8.setTop (mkF m 72 #[.val (.int x0), .val (.int x1), .val (.ref a1), .val (.ref a2), .val (.int (own_f1 x0)), .val (.int (1 : Int32)), .unset, .unset, .unset] [(.int (2147483647 : Int32)), (.int x1)]))
        refine own_Goes.step (fun tq kq => XS.iand X8.here hx rfl (hb hby at_72) rfl kq) ?_
        show own_Goes _ _ _ _ _ _ _ (T8.setTop (mkF m 73 #[.val (.int x0), .val (.int x1), .val (.ref a1), .val (.ref a2), .val (.int (own_f1 x0)), .val (.int (1 : Int32)), .unset, .unset, .unset] [(.int (x1 &&& (2147483647 : Int32)))]))
        refine own_Goes.step (fun tq kq => XT.bipushV X8.here hx rfl (22 : Int32) (hb hby at_73) (by decide) kq) ?_
        show own_Goes _ _ _ _ _ _ _ (T8.setTop (mkF m 75 #[.val (.int x0), .val (.int x1), .val (.ref a1), .val (.ref a2), .val (.int (own_f1 x0)), .val (.int (1 : Int32)), .unset, .unset, .unset] [(.int (22 : Int32)), (.int (x1 &&& (2147483647 : Int32)))]))
        refine own_Goes.step (fun tq kq => iremM X8 hx rfl (hb hby at_75) rfl (by decide) kq) ?_
        show own_Goes _ _ _ _ _ _ _ (T8.setTop (mkF m 76 #[.val (.int x0), .val (.int x1), .val (.ref a1), .val (.ref a2), .val (.int (own_f1 x0)), .val (.int (1 : Int32)), .unset, .unset, .unset] [(.int ((x1 &&& (2147483647 : Int32)) % (22 : Int32)))]))
        refine own_Goes.step (fun tq kq => XS.istore X8.here hx rfl (hb hby at_76) rfl (l' := #[.val (.int x0), .val (.int x1), .val (.ref a1), .val (.ref a2), .val (.int (own_f1 x0)), .val (.int (1 : Int32)), .val (.int ((x1 &&& (2147483647 : Int32)) % (22 : Int32))), .unset, .unset]) rfl kq) ?_
        show own_Goes _ _ _ _ _ _ _ (T8.setTop (mkF m 78 #[.val (.int x0), .val (.int x1), .val (.ref a1), .val (.ref a2), .val (.int (own_f1 x0)), .val (.int (1 : Int32)), .val (.int ((x1 &&& (2147483647 : Int32)) % (22 : Int32))), .unset, .unset] []))
        rw [show ((x1 &&& (2147483647 : Int32)) % (22 : Int32)) = (own_ix x1) from rfl]
        show own_Goes _ _ _ _ _ _ _ (T8.setTop (mkF m 78 #[.val (.int x0), .val (.int x1), .val (.ref a1), .val (.ref a2), .val (.int (own_f1 x0)), .val (.int (1 : Int32)), .val (.int (own_ix x1)), .unset, .unset] []))
        refine own_Goes.step (fun tq kq => XS.iload X8.here hx rfl (hb hby at_78) rfl kq) ?_
        show own_Goes _ _ _ _ _ _ _ (T8.setTop (mkF m 80 #[.val (.int x0), .val (.int x1), .val (.ref a1), .val (.ref a2), .val (.int (own_f1 x0)), .val (.int (1 : Int32)), .val (.int (own_ix x1)), .unset, .unset] [(.int (own_ix x1))]))
        refine own_Goes.step (fun tq kq => XT.bipushV X8.here hx rfl (16 : Int32) (hb hby at_80) (by decide) kq) ?_
        show own_Goes _ _ _ _ _ _ _ (T8.setTop (mkF m 82 #[.val (.int x0), .val (.int x1), .val (.ref a1), .val (.ref a2), .val (.int (own_f1 x0)), .val (.int (1 : Int32)), .val (.int (own_ix x1)), .unset, .unset] [(.int (16 : Int32)), (.int (own_ix x1))]))
        by_cases hc10 : (own_ix x1) < (16 : Int32)
        · refine own_Goes.step (fun tq kq => XS.icmpNo X8.here hx rfl (hb hby at_82) rfl (XT.ii_ge_f hc10) kq) ?_
          show own_Goes _ _ _ _ _ _ _ (T8.setTop (mkF m 85 #[.val (.int x0), .val (.int x1), .val (.ref a1), .val (.ref a2), .val (.int (own_f1 x0)), .val (.int (1 : Int32)), .val (.int (own_ix x1)), .unset, .unset] []))
          refine own_Goes.step (fun tq kq => XS.aloadN X8.here hx rfl (hb hby at_85) rfl rfl kq) ?_
          show own_Goes _ _ _ _ _ _ _ (T8.setTop (mkF m 86 #[.val (.int x0), .val (.int x1), .val (.ref a1), .val (.ref a2), .val (.int (own_f1 x0)), .val (.int (1 : Int32)), .val (.int (own_ix x1)), .unset, .unset] [(.ref a1)]))
          refine own_Goes.step (fun tq kq => XS.iload X8.here hx rfl (hb hby at_86) rfl kq) ?_
          show own_Goes _ _ _ _ _ _ _ (T8.setTop (mkF m 88 #[.val (.int x0), .val (.int x1), .val (.ref a1), .val (.ref a2), .val (.int (own_f1 x0)), .val (.int (1 : Int32)), .val (.int (own_ix x1)), .unset, .unset] [(.int (own_ix x1)), (.ref a1)]))
          obtain ⟨w11, T11, L11, q11, Y11, st11⟩ := own_virt X8 hx hZ e8 EX1 hown (own_at hw 14 rfl) (own_at hw 15 rfl) (own_at hw 17 rfl) (own_at hw 16 rfl) (own_at hw 1 rfl) (own_at hw 18 rfl) (by decide) (own_m2 l Z a0 hw [] a1 (own_ix x1) b1 G1 G3 own_lo ((own_ix x1)).toInt.toNat 0 h2 O2 P5 O4 rG3 EX1 FC1 FV1 RB1 (own_i1 x1 hc10).1 (own_i1 x1 hc10).2) (by decide) (W := 0) (by decide) (by decide) (by decide) (g := (mkF m 88 #[.val (.int x0), .val (.int x1), .val (.ref a1), .val (.ref a2), .val (.int (own_f1 x0)), .val (.int (1 : Int32)), .val (.int (own_ix x1)), .unset, .unset] [(.int (own_ix x1)), (.ref a1)])) rfl (by rw [hml]; rfl) (argsL := [(.int (own_ix x1))]) (rest := []) (lenOf pd_2 rfl) rfl (by show 2 * 0 + _ ≤ _; exact Nat.le_of_eq rfl) (hb hby at_88)
          obtain ⟨e11, X11⟩ := own_clean q11 Y11 rfl rfl
          obtain ⟨rfl, -, -⟩ := q11
          refine own_Goes.step st11 ?_
          show own_Goes _ _ _ _ _ _ _ (T11.setTop (mkF m 91 #[.val (.int x0), .val (.int x1), .val (.ref a1), .val (.ref a2), .val (.int (own_f1 x0)), .val (.int (1 : Int32)), .val (.int (own_ix x1)), .unset, .unset] [(.int (own_cl (own_ix x1)))]))
          refine own_Goes.step (fun tq kq => XS.istore X11.here hx rfl (hb hby at_91) rfl (l' := #[.val (.int x0), .val (.int x1), .val (.ref a1), .val (.ref a2), .val (.int (own_f1 x0)), .val (.int (1 : Int32)), .val (.int (own_ix x1)), .val (.int (own_cl (own_ix x1))), .unset]) rfl kq) ?_
          show own_Goes _ _ _ _ _ _ _ (T11.setTop (mkF m 93 #[.val (.int x0), .val (.int x1), .val (.ref a1), .val (.ref a2), .val (.int (own_f1 x0)), .val (.int (1 : Int32)), .val (.int (own_ix x1)), .val (.int (own_cl (own_ix x1))), .unset] []))
          refine own_Goes.step (fun tq kq => XS.iload X11.here hx rfl (hb hby at_93) rfl kq) ?_
          show own_Goes _ _ _ _ _ _ _ (T11.setTop (mkF m 95 #[.val (.int x0), .val (.int x1), .val (.ref a1), .val (.ref a2), .val (.int (own_f1 x0)), .val (.int (1 : Int32)), .val (.int (own_ix x1)), .val (.int (own_cl (own_ix x1))), .unset] [(.int (own_ix x1))]))
          refine own_Goes.step (fun tq kq => XS.istore X11.here hx rfl (hb hby at_95) rfl (l' := #[.val (.int x0), .val (.int x1), .val (.ref a1), .val (.ref a2), .val (.int (own_f1 x0)), .val (.int (1 : Int32)), .val (.int (own_ix x1)), .val (.int (own_cl (own_ix x1))), .val (.int (own_ix x1))]) rfl kq) ?_
          show own_Goes _ _ _ _ _ _ _ (T11.setTop (mkF m 97 #[.val (.int x0), .val (.int x1), .val (.ref a1), .val (.ref a2), .val (.int (own_f1 x0)), .val (.int (1 : Int32)), .val (.int (own_ix x1)), .val (.int (own_cl (own_ix x1))), .val (.int (own_ix x1))] []))
          refine own_Goes.step (fun tq kq => XS.goto X11.here hx rfl (pc0 := 97) (pc' := 118) rfl (hb hby at_97) (by decide) (by decide) kq) ?_
          show own_Goes _ _ _ _ _ _ _ (T11.setTop (mkF m 118 #[.val (.int x0), .val (.int x1), .val (.ref a1), .val (.ref a2), .val (.int (own_f1 x0)), .val (.int (1 : Int32)), .val (.int (own_ix x1)), .val (.int (own_cl (own_ix x1))), .val (.int (own_ix x1))] []))
          refine own_Goes.step (fun tq kq => XS.iload X11.here hx rfl (hb hby at_118) rfl kq) ?_
          show own_Goes _ _ _ _ _ _ _ (T11.setTop (mkF m 120 #[.val (.int x0), .val (.int x1), .val (.ref a1), .val (.ref a2), .val (.int (own_f1 x0)), .val (.int (1 : Int32)), .val (.int (own_ix x1)), .val (.int (own_cl (own_ix x1))), .val (.int (own_ix x1))] [(.int (1 : Int32))]))
          refine own_Goes.step (fun tq kq => XS.ifNo X11.here hx rfl (hb hby at_120) rfl (XT.i0_eq_f (by decide)) kq) ?_
          show own_Goes _ _ _ _ _ _ _ (T11.setTop (mkF m 123 #[.val (.int x0), .val (.int x1), .val (.ref a1), .val (.ref a2), .val (.int (own_f1 x0)), .val (.int (1 : Int32)), .val (.int (own_ix x1)), .val (.int (own_cl (own_ix x1))), .val (.int (own_ix x1))] []))
          refine own_Goes.step (fun tq kq => XS.iload X11.here hx rfl (hb hby at_123) rfl kq) ?_
          show own_Goes _ _ _ _ _ _ _ (T11.setTop (mkF m 125 #[.val (.int x0), .val (.int x1), .val (.ref a1), .val (.ref a2), .val (.int (own_f1 x0)), .val (.int (1 : Int32)), .val (.int (own_ix x1)), .val (.int (own_cl (own_ix x1))), .val (.int (own_ix x1))] [(.int (own_cl (own_ix x1)))]))
          obtain ⟨w12, T12, L12, q12, Y12, st12⟩ := own_stat X11 hx hZ e11 hown (own_at hw 9 rfl) (own_at hw 10 rfl) (own_at hw 11 rfl) (own_at hw 12 rfl) (by decide) (own_m1 l Z a0 hw [] (own_cl (own_ix x1)) h2 ) (by decide) (W := 0) (by decide) (by decide) (by decide) (g := (mkF m 125 #[.val (.int x0), .val (.int x1), .val (.ref a1), .val (.ref a2), .val (.int (own_f1 x0)), .val (.int (1 : Int32)), .val (.int (own_ix x1)), .val (.int (own_cl (own_ix x1))), .val (.int (own_ix x1))] [(.int (own_cl (own_ix x1)))])) rfl (by rw [hml]; rfl) (argsL := [(.int (own_cl (own_ix x1)))]) (rest := []) (lenOf pd_1 rfl) rfl (by show 2 * 0 + _ ≤ _; exact Nat.le_of_eq rfl) (hb hby at_125)
          obtain ⟨e12, X12⟩ := own_clean q12 Y12 rfl rfl
          obtain ⟨rfl, -, -⟩ := q12
          refine own_Goes.step st12 ?_
          show own_Goes _ _ _ _ _ _ _ (T12.setTop (mkF m 128 #[.val (.int x0), .val (.int x1), .val (.ref a1), .val (.ref a2), .val (.int (own_f1 x0)), .val (.int (1 : Int32)), .val (.int (own_ix x1)), .val (.int (own_cl (own_ix x1))), .val (.int (own_ix x1))] [(.int (own_f1 (own_cl (own_ix x1))))]))
          refine own_Goes.step (fun tq kq => XS.iload X12.here hx rfl (hb hby at_128) rfl kq) ?_
          show own_Goes _ _ _ _ _ _ _ (T12.setTop (mkF m 130 #[.val (.int x0), .val (.int x1), .val (.ref a1), .val (.ref a2), .val (.int (own_f1 x0)), .val (.int (1 : Int32)), .val (.int (own_ix x1)), .val (.int (own_cl (own_ix x1))), .val (.int (own_ix x1))] [(.int (own_ix x1)), (.int (own_f1 (own_cl (own_ix x1))))]))
          refine own_Goes.step (fun tq kq => XS.icmpNo X12.here hx rfl (hb hby at_130) rfl (XT.ii_ne_f ((own_dd x1).1 hc10)) kq) ?_
          show own_Goes _ _ _ _ _ _ _ (T12.setTop (mkF m 133 #[.val (.int x0), .val (.int x1), .val (.ref a1), .val (.ref a2), .val (.int (own_f1 x0)), .val (.int (1 : Int32)), .val (.int (own_ix x1)), .val (.int (own_cl (own_ix x1))), .val (.int (own_ix x1))] []))
          refine own_Goes.step (fun tq kq => XT.iconstV X12.here hx rfl (1 : Int32) (hb hby at_133) (by decide) kq) ?_
          show own_Goes _ _ _ _ _ _ _ (T12.setTop (mkF m 134 #[.val (.int x0), .val (.int x1), .val (.ref a1), .val (.ref a2), .val (.int (own_f1 x0)), .val (.int (1 : Int32)), .val (.int (own_ix x1)), .val (.int (own_cl (own_ix x1))), .val (.int (own_ix x1))] [(.int (1 : Int32))]))
          refine own_Goes.step (fun tq kq => XS.goto X12.here hx rfl (pc0 := 134) (pc' := 138) rfl (hb hby at_134) (by decide) (by decide) kq) ?_
          show own_Goes _ _ _ _ _ _ _ (T12.setTop (mkF m 138 #[.val (.int x0), .val (.int x1), .val (.ref a1), .val (.ref a2), .val (.int (own_f1 x0)), .val (.int (1 : Int32)), .val (.int (own_ix x1)), .val (.int (own_cl (own_ix x1))), .val (.int (own_ix x1))] [(.int (1 : Int32))]))
          exact own_endN X12 hx Bd.notSynchronized (t := .boolean) Bd.returns (by simp) (hb hby at_138) ⟨rfl, rfl, e12⟩ (by decide) (by decide)
        · refine own_Goes.step (fun tq kq => XS.icmpYes X8.here hx rfl (pc0 := 82) (pc' := 100) rfl (hb hby at_82) rfl (XT.ii_ge_t hc10) (by decide) (by decide) kq) ?_
          show own_Goes _ _ _ _ _ _ _ (T8.setTop (mkF m 100 #[.val (.int x0), .val (.int x1), .val (.ref a1), .val (.ref a2), .val (.int (own_f1 x0)), .val (.int (1 : Int32)), .val (.int (own_ix x1)), .unset, .unset] []))
          refine own_Goes.step (fun tq kq => XS.aloadN X8.here hx rfl (hb hby at_100) rfl rfl kq) ?_
          show own_Goes _ _ _ _ _ _ _ (T8.setTop (mkF m 101 #[.val (.int x0), .val (.int x1), .val (.ref a1), .val (.ref a2), .val (.int (own_f1 x0)), .val (.int (1 : Int32)), .val (.int (own_ix x1)), .unset, .unset] [(.ref a2)]))
          refine own_Goes.step (fun tq kq => XS.iload X8.here hx rfl (hb hby at_101) rfl kq) ?_
          show own_Goes _ _ _ _ _ _ _ (T8.setTop (mkF m 103 #[.val (.int x0), .val (.int x1), .val (.ref a1), .val (.ref a2), .val (.int (own_f1 x0)), .val (.int (1 : Int32)), .val (.int (own_ix x1)), .unset, .unset] [(.int (own_ix x1)), (.ref a2)]))
          refine own_Goes.step (fun tq kq => XT.bipushV X8.here hx rfl (6 : Int32) (hb hby at_103) (by decide) kq) ?_
          show own_Goes _ _ _ _ _ _ _ (T8.setTop (mkF m 105 #[.val (.int x0), .val (.int x1), .val (.ref a1), .val (.ref a2), .val (.int (own_f1 x0)), .val (.int (1 : Int32)), .val (.int (own_ix x1)), .unset, .unset] [(.int (6 : Int32)), (.int (own_ix x1)), (.ref a2)]))
          refine own_Goes.step (fun tq kq => XS.isub X8.here hx rfl (hb hby at_105) rfl kq) ?_
          show own_Goes _ _ _ _ _ _ _ (T8.setTop (mkF m 106 #[.val (.int x0), .val (.int x1), .val (.ref a1), .val (.ref a2), .val (.int (own_f1 x0)), .val (.int (1 : Int32)), .val (.int (own_ix x1)), .unset, .unset] [(.int ((own_ix x1) - (6 : Int32))), (.ref a2)]))
          obtain ⟨w13, T13, L13, q13, Y13, st13⟩ := own_virt X8 hx hZ e8 EX2 hown (own_at hw 14 rfl) (own_at hw 15 rfl) (own_at hw 17 rfl) (own_at hw 16 rfl) (own_at hw 1 rfl) (own_at hw 18 rfl) (by decide) (own_m2 l Z a0 hw [] a2 ((own_ix x1) - (6 : Int32)) b2 G1 G3 own_up ((own_ix x1 - (6 : Int32))).toInt.toNat 0 h2 O2 P5 O4 rG3 EX2 FC2 FV2 RB2 (own_i2 x1 hc10).1 (own_i2 x1 hc10).2) (by decide) (W := 0) (by decide) (by decide) (by decide) (g := (mkF m 106 #[.val (.int x0), .val (.int x1), .val (.ref a1), .val (.ref a2), .val (.int (own_f1 x0)), .val (.int (1 : Int32)), .val (.int (own_ix x1)), .unset, .unset] [(.int ((own_ix x1) - (6 : Int32))), (.ref a2)])) rfl (by rw [hml]; rfl) (argsL := [(.int ((own_ix x1) - (6 : Int32)))]) (rest := []) (lenOf pd_2 rfl) rfl (by show 2 * 0 + _ ≤ _; exact Nat.le_of_eq rfl) (hb hby at_106)
          obtain ⟨e13, X13⟩ := own_clean q13 Y13 rfl rfl
          obtain ⟨rfl, -, -⟩ := q13
          refine own_Goes.step st13 ?_
          show own_Goes _ _ _ _ _ _ _ (T13.setTop (mkF m 109 #[.val (.int x0), .val (.int x1), .val (.ref a1), .val (.ref a2), .val (.int (own_f1 x0)), .val (.int (1 : Int32)), .val (.int (own_ix x1)), .unset, .unset] [(.int (own_cu (own_ix x1 - (6 : Int32))))]))
          refine own_Goes.step (fun tq kq => XS.istore X13.here hx rfl (hb hby at_109) rfl (l' := #[.val (.int x0), .val (.int x1), .val (.ref a1), .val (.ref a2), .val (.int (own_f1 x0)), .val (.int (1 : Int32)), .val (.int (own_ix x1)), .val (.int (own_cu (own_ix x1 - (6 : Int32)))), .unset]) rfl kq) ?_
          show own_Goes _ _ _ _ _ _ _ (T13.setTop (mkF m 111 #[.val (.int x0), .val (.int x1), .val (.ref a1), .val (.ref a2), .val (.int (own_f1 x0)), .val (.int (1 : Int32)), .val (.int (own_ix x1)), .val (.int (own_cu (own_ix x1 - (6 : Int32)))), .unset] []))
          refine own_Goes.step (fun tq kq => XS.iload X13.here hx rfl (hb hby at_111) rfl kq) ?_
          show own_Goes _ _ _ _ _ _ _ (T13.setTop (mkF m 113 #[.val (.int x0), .val (.int x1), .val (.ref a1), .val (.ref a2), .val (.int (own_f1 x0)), .val (.int (1 : Int32)), .val (.int (own_ix x1)), .val (.int (own_cu (own_ix x1 - (6 : Int32)))), .unset] [(.int (own_ix x1))]))
          refine own_Goes.step (fun tq kq => XT.bipushV X13.here hx rfl (6 : Int32) (hb hby at_113) (by decide) kq) ?_
          show own_Goes _ _ _ _ _ _ _ (T13.setTop (mkF m 115 #[.val (.int x0), .val (.int x1), .val (.ref a1), .val (.ref a2), .val (.int (own_f1 x0)), .val (.int (1 : Int32)), .val (.int (own_ix x1)), .val (.int (own_cu (own_ix x1 - (6 : Int32)))), .unset] [(.int (6 : Int32)), (.int (own_ix x1))]))
          refine own_Goes.step (fun tq kq => XS.isub X13.here hx rfl (hb hby at_115) rfl kq) ?_
          show own_Goes _ _ _ _ _ _ _ (T13.setTop (mkF m 116 #[.val (.int x0), .val (.int x1), .val (.ref a1), .val (.ref a2), .val (.int (own_f1 x0)), .val (.int (1 : Int32)), .val (.int (own_ix x1)), .val (.int (own_cu (own_ix x1 - (6 : Int32)))), .unset] [(.int ((own_ix x1) - (6 : Int32)))]))
          refine own_Goes.step (fun tq kq => XS.istore X13.here hx rfl (hb hby at_116) rfl (l' := #[.val (.int x0), .val (.int x1), .val (.ref a1), .val (.ref a2), .val (.int (own_f1 x0)), .val (.int (1 : Int32)), .val (.int (own_ix x1)), .val (.int (own_cu (own_ix x1 - (6 : Int32)))), .val (.int ((own_ix x1) - (6 : Int32)))]) rfl kq) ?_
          show own_Goes _ _ _ _ _ _ _ (T13.setTop (mkF m 118 #[.val (.int x0), .val (.int x1), .val (.ref a1), .val (.ref a2), .val (.int (own_f1 x0)), .val (.int (1 : Int32)), .val (.int (own_ix x1)), .val (.int (own_cu (own_ix x1 - (6 : Int32)))), .val (.int ((own_ix x1) - (6 : Int32)))] []))
          refine own_Goes.step (fun tq kq => XS.iload X13.here hx rfl (hb hby at_118) rfl kq) ?_
          show own_Goes _ _ _ _ _ _ _ (T13.setTop (mkF m 120 #[.val (.int x0), .val (.int x1), .val (.ref a1), .val (.ref a2), .val (.int (own_f1 x0)), .val (.int (1 : Int32)), .val (.int (own_ix x1)), .val (.int (own_cu (own_ix x1 - (6 : Int32)))), .val (.int ((own_ix x1) - (6 : Int32)))] [(.int (1 : Int32))]))
          refine own_Goes.step (fun tq kq => XS.ifNo X13.here hx rfl (hb hby at_120) rfl (XT.i0_eq_f (by decide)) kq) ?_
          show own_Goes _ _ _ _ _ _ _ (T13.setTop (mkF m 123 #[.val (.int x0), .val (.int x1), .val (.ref a1), .val (.ref a2), .val (.int (own_f1 x0)), .val (.int (1 : Int32)), .val (.int (own_ix x1)), .val (.int (own_cu (own_ix x1 - (6 : Int32)))), .val (.int ((own_ix x1) - (6 : Int32)))] []))
          refine own_Goes.step (fun tq kq => XS.iload X13.here hx rfl (hb hby at_123) rfl kq) ?_
          show own_Goes _ _ _ _ _ _ _ (T13.setTop (mkF m 125 #[.val (.int x0), .val (.int x1), .val (.ref a1), .val (.ref a2), .val (.int (own_f1 x0)), .val (.int (1 : Int32)), .val (.int (own_ix x1)), .val (.int (own_cu (own_ix x1 - (6 : Int32)))), .val (.int ((own_ix x1) - (6 : Int32)))] [(.int (own_cu (own_ix x1 - (6 : Int32))))]))
          obtain ⟨w14, T14, L14, q14, Y14, st14⟩ := own_stat X13 hx hZ e13 hown (own_at hw 9 rfl) (own_at hw 10 rfl) (own_at hw 11 rfl) (own_at hw 12 rfl) (by decide) (own_m1 l Z a0 hw [] (own_cu (own_ix x1 - (6 : Int32))) h2 ) (by decide) (W := 0) (by decide) (by decide) (by decide) (g := (mkF m 125 #[.val (.int x0), .val (.int x1), .val (.ref a1), .val (.ref a2), .val (.int (own_f1 x0)), .val (.int (1 : Int32)), .val (.int (own_ix x1)), .val (.int (own_cu (own_ix x1 - (6 : Int32)))), .val (.int ((own_ix x1) - (6 : Int32)))] [(.int (own_cu (own_ix x1 - (6 : Int32))))])) rfl (by rw [hml]; rfl) (argsL := [(.int (own_cu (own_ix x1 - (6 : Int32))))]) (rest := []) (lenOf pd_1 rfl) rfl (by show 2 * 0 + _ ≤ _; exact Nat.le_of_eq rfl) (hb hby at_125)
          obtain ⟨e14, X14⟩ := own_clean q14 Y14 rfl rfl
          obtain ⟨rfl, -, -⟩ := q14
          refine own_Goes.step st14 ?_
          show own_Goes _ _ _ _ _ _ _ (T14.setTop (mkF m 128 #[.val (.int x0), .val (.int x1), .val (.ref a1), .val (.ref a2), .val (.int (own_f1 x0)), .val (.int (1 : Int32)), .val (.int (own_ix x1)), .val (.int (own_cu (own_ix x1 - (6 : Int32)))), .val (.int ((own_ix x1) - (6 : Int32)))] [(.int (own_f1 (own_cu (own_ix x1 - (6 : Int32)))))]))
          refine own_Goes.step (fun tq kq => XS.iload X14.here hx rfl (hb hby at_128) rfl kq) ?_
          show own_Goes _ _ _ _ _ _ _ (T14.setTop (mkF m 130 #[.val (.int x0), .val (.int x1), .val (.ref a1), .val (.ref a2), .val (.int (own_f1 x0)), .val (.int (1 : Int32)), .val (.int (own_ix x1)), .val (.int (own_cu (own_ix x1 - (6 : Int32)))), .val (.int ((own_ix x1) - (6 : Int32)))] [(.int ((own_ix x1) - (6 : Int32))), (.int (own_f1 (own_cu (own_ix x1 - (6 : Int32)))))]))
          refine own_Goes.step (fun tq kq => XS.icmpNo X14.here hx rfl (hb hby at_130) rfl (XT.ii_ne_f ((own_dd x1).2 hc10)) kq) ?_
          show own_Goes _ _ _ _ _ _ _ (T14.setTop (mkF m 133 #[.val (.int x0), .val (.int x1), .val (.ref a1), .val (.ref a2), .val (.int (own_f1 x0)), .val (.int (1 : Int32)), .val (.int (own_ix x1)), .val (.int (own_cu (own_ix x1 - (6 : Int32)))), .val (.int ((own_ix x1) - (6 : Int32)))] []))
          refine own_Goes.step (fun tq kq => XT.iconstV X14.here hx rfl (1 : Int32) (hb hby at_133) (by decide) kq) ?_
          show own_Goes _ _ _ _ _ _ _ (T14.setTop (mkF m 134 #[.val (.int x0), .val (.int x1), .val (.ref a1), .val (.ref a2), .val (.int (own_f1 x0)), .val (.int (1 : Int32)), .val (.int (own_ix x1)), .val (.int (own_cu (own_ix x1 - (6 : Int32)))), .val (.int ((own_ix x1) - (6 : Int32)))] [(.int (1 : Int32))]))
          refine own_Goes.step (fun tq kq => XS.goto X14.here hx rfl (pc0 := 134) (pc' := 138) rfl (hb hby at_134) (by decide) (by decide) kq) ?_
          show own_Goes _ _ _ _ _ _ _ (T14.setTop (mkF m 138 #[.val (.int x0), .val (.int x1), .val (.ref a1), .val (.ref a2), .val (.int (own_f1 x0)), .val (.int (1 : Int32)), .val (.int (own_ix x1)), .val (.int (own_cu (own_ix x1 - (6 : Int32)))), .val (.int ((own_ix x1) - (6 : Int32)))] [(.int (1 : Int32))]))
          exact own_endN X14 hx Bd.notSynchronized (t := .boolean) Bd.returns (by simp) (hb hby at_138) ⟨rfl, rfl, e14⟩ (by decide) (by decide)
      · refine own_Goes.step (fun tq kq => XS.icmpNo X8.here hx rfl (hb hby at_43) rfl (XT.ii_eq_f hc9) kq) ?_
        show own_Goes _ _ _ _ _ _ _ (T8.setTop (mkF m 46 #[.val (.int x0), .val (.int x1), .val (.ref a1), .val (.ref a2), .val (.int (own_f1 x0)), .unset, .unset, .unset, .unset] []))
        refine own_Goes.step (fun tq kq => XS.iloadN X8.here hx rfl (hb hby at_46) rfl kq) ?_
        show own_Goes _ _ _ _ _ _ _ (T8.setTop (mkF m 47 #[.val (.int x0), .val (.int x1), .val (.ref a1), .val (.ref a2), .val (.int (own_f1 x0)), .unset, .unset, .unset, .unset] [(.int x0)]))
        refine own_Goes.step (fun tq kq => XS.aloadN X8.here hx rfl (hb hby at_47) rfl rfl kq) ?_
        show own_Goes _ _ _ _ _ _ _ (T8.setTop (mkF m 48 #[.val (.int x0), .val (.int x1), .val (.ref a1), .val (.ref a2), .val (.int (own_f1 x0)), .unset, .unset, .unset, .unset] [(.ref a2), (.int x0)]))
        refine own_Goes.step (fun tq kq => XS.iload X8.here hx rfl (hb hby at_48) rfl kq) ?_
        show own_Goes _ _ _ _ _ _ _ (T8.setTop (mkF m 50 #[.val (.int x0), .val (.int x1), .val (.ref a1), .val (.ref a2), .val (.int (own_f1 x0)), .unset, .unset, .unset, .unset] [(.int (own_f1 x0)), (.ref a2), (.int x0)]))
        obtain ⟨w15, T15, L15, q15, Y15, st15⟩ := own_virt X8 hx hZ e8 EX2 hown (own_at hw 14 rfl) (own_at hw 15 rfl) (own_at hw 17 rfl) (own_at hw 16 rfl) (own_at hw 1 rfl) (own_at hw 18 rfl) (by decide) (own_m2 l Z a0 hw [] a2 (own_f1 x0) b2 G1 G3 own_up ((own_f1 x0)).toInt.toNat 0 h2 O2 P5 O4 rG3 EX2 FC2 FV2 RB2 (own_vi x0 hc2).1 (own_vi x0 hc2).2) (by decide) (W := 1) (by decide) (by decide) (by decide) (g := (mkF m 50 #[.val (.int x0), .val (.int x1), .val (.ref a1), .val (.ref a2), .val (.int (own_f1 x0)), .unset, .unset, .unset, .unset] [(.int (own_f1 x0)), (.ref a2), (.int x0)])) rfl (by rw [hml]; rfl) (argsL := [(.int (own_f1 x0))]) (rest := [(.int x0)]) (lenOf pd_2 rfl) rfl (by show 2 * 0 + _ ≤ _; exact Nat.le_of_eq rfl) (hb hby at_50)
        obtain ⟨e15, X15⟩ := own_clean q15 Y15 rfl rfl
        obtain ⟨rfl, -, -⟩ := q15
        refine own_Goes.step st15 ?_
        show own_Goes _ _ _ _ _ _ _ (T15.setTop (mkF m 53 #[.val (.int x0), .val (.int x1), .val (.ref a1), .val (.ref a2), .val (.int (own_f1 x0)), .unset, .unset, .unset, .unset] [(.int (own_cu (own_f1 x0))), (.int x0)]))
        refine own_Goes.step (fun tq kq => XS.icmpNo X15.here hx rfl (hb hby at_53) rfl (XT.ii_ne_f (own_vu x0 hc2 hc9)) kq) ?_
        show own_Goes _ _ _ _ _ _ _ (T15.setTop (mkF m 56 #[.val (.int x0), .val (.int x1), .val (.ref a1), .val (.ref a2), .val (.int (own_f1 x0)), .unset, .unset, .unset, .unset] []))
        refine own_Goes.step (fun tq kq => XT.iconstV X15.here hx rfl (1 : Int32) (hb hby at_56) (by decide) kq) ?_
        show own_Goes _ _ _ _ _ _ _ (T15.setTop (mkF m 57 #[.val (.int x0), .val (.int x1), .val (.ref a1), .val (.ref a2), .val (.int (own_f1 x0)), .unset, .unset, .unset, .unset] [(.int (1 : Int32))]))
        refine own_Goes.step (fun tq kq => XS.goto X15.here hx rfl (pc0 := 57) (pc' := 61) rfl (hb hby at_57) (by decide) (by decide) kq) ?_
        show own_Goes _ _ _ _ _ _ _ (T15.setTop (mkF m 61 #[.val (.int x0), .val (.int x1), .val (.ref a1), .val (.ref a2), .val (.int (own_f1 x0)), .unset, .unset, .unset, .unset] [(.int (1 : Int32))]))
        refine own_Goes.step (fun tq kq => XS.istore X15.here hx rfl (hb hby at_61) rfl (l' := #[.val (.int x0), .val (.int x1), .val (.ref a1), .val (.ref a2), .val (.int (own_f1 x0)), .val (.int (1 : Int32)), .unset, .unset, .unset]) rfl kq) ?_
        show own_Goes _ _ _ _ _ _ _ (T15.setTop (mkF m 63 #[.val (.int x0), .val (.int x1), .val (.ref a1), .val (.ref a2), .val (.int (own_f1 x0)), .val (.int (1 : Int32)), .unset, .unset, .unset] []))
        refine own_Goes.step (fun tq kq => XS.goto X15.here hx rfl (pc0 := 63) (pc' := 69) rfl (hb hby at_63) (by decide) (by decide) kq) ?_
        show own_Goes _ _ _ _ _ _ _ (T15.setTop (mkF m 69 #[.val (.int x0), .val (.int x1), .val (.ref a1), .val (.ref a2), .val (.int (own_f1 x0)), .val (.int (1 : Int32)), .unset, .unset, .unset] []))
        refine own_Goes.step (fun tq kq => XS.iloadN X15.here hx rfl (hb hby at_69) rfl kq) ?_
        show own_Goes _ _ _ _ _ _ _ (T15.setTop (mkF m 70 #[.val (.int x0), .val (.int x1), .val (.ref a1), .val (.ref a2), .val (.int (own_f1 x0)), .val (.int (1 : Int32)), .unset, .unset, .unset] [(.int x1)]))
        refine own_Goes.step (fun tq kq => X15.ldcI hx hown (mvT hZ (own_at hw 13 rfl)) rfl (hb hby at_70) kq) ?_
        show own_Goes _ _ _ _ _ _ _ (T15.setTop (mkF m 72 #[.val (.int x0), .val (.int x1), .val (.ref a1), .val (.ref a2), .val (.int (own_f1 x0)), .val (.int (1 : Int32)), .unset, .unset, .unset] [(.int (2147483647 : Int32)), (.int x1)]))
        refine own_Goes.step (fun tq kq => XS.iand X15.here hx rfl (hb hby at_72) rfl kq) ?_
        show own_Goes _ _ _ _ _ _ _ (T15.setTop (mkF m 73 #[.val (.int x0), .val (.int x1), .val (.ref a1), .val (.ref a2), .val (.int (own_f1 x0)), .val (.int (1 : Int32)), .unset, .unset, .unset] [(.int (x1 &&& (2147483647 : Int32)))]))
        refine own_Goes.step (fun tq kq => XT.bipushV X15.here hx rfl (22 : Int32) (hb hby at_73) (by decide) kq) ?_
        show own_Goes _ _ _ _ _ _ _ (T15.setTop (mkF m 75 #[.val (.int x0), .val (.int x1), .val (.ref a1), .val (.ref a2), .val (.int (own_f1 x0)), .val (.int (1 : Int32)), .unset, .unset, .unset] [(.int (22 : Int32)), (.int (x1 &&& (2147483647 : Int32)))]))
        refine own_Goes.step (fun tq kq => iremM X15 hx rfl (hb hby at_75) rfl (by decide) kq) ?_
        show own_Goes _ _ _ _ _ _ _ (T15.setTop (mkF m 76 #[.val (.int x0), .val (.int x1), .val (.ref a1), .val (.ref a2), .val (.int (own_f1 x0)), .val (.int (1 : Int32)), .unset, .unset, .unset] [(.int ((x1 &&& (2147483647 : Int32)) % (22 : Int32)))]))
        refine own_Goes.step (fun tq kq => XS.istore X15.here hx rfl (hb hby at_76) rfl (l' := #[.val (.int x0), .val (.int x1), .val (.ref a1), .val (.ref a2), .val (.int (own_f1 x0)), .val (.int (1 : Int32)), .val (.int ((x1 &&& (2147483647 : Int32)) % (22 : Int32))), .unset, .unset]) rfl kq) ?_
        show own_Goes _ _ _ _ _ _ _ (T15.setTop (mkF m 78 #[.val (.int x0), .val (.int x1), .val (.ref a1), .val (.ref a2), .val (.int (own_f1 x0)), .val (.int (1 : Int32)), .val (.int ((x1 &&& (2147483647 : Int32)) % (22 : Int32))), .unset, .unset] []))
        rw [show ((x1 &&& (2147483647 : Int32)) % (22 : Int32)) = (own_ix x1) from rfl]
        show own_Goes _ _ _ _ _ _ _ (T15.setTop (mkF m 78 #[.val (.int x0), .val (.int x1), .val (.ref a1), .val (.ref a2), .val (.int (own_f1 x0)), .val (.int (1 : Int32)), .val (.int (own_ix x1)), .unset, .unset] []))
        refine own_Goes.step (fun tq kq => XS.iload X15.here hx rfl (hb hby at_78) rfl kq) ?_
        show own_Goes _ _ _ _ _ _ _ (T15.setTop (mkF m 80 #[.val (.int x0), .val (.int x1), .val (.ref a1), .val (.ref a2), .val (.int (own_f1 x0)), .val (.int (1 : Int32)), .val (.int (own_ix x1)), .unset, .unset] [(.int (own_ix x1))]))
        refine own_Goes.step (fun tq kq => XT.bipushV X15.here hx rfl (16 : Int32) (hb hby at_80) (by decide) kq) ?_
        show own_Goes _ _ _ _ _ _ _ (T15.setTop (mkF m 82 #[.val (.int x0), .val (.int x1), .val (.ref a1), .val (.ref a2), .val (.int (own_f1 x0)), .val (.int (1 : Int32)), .val (.int (own_ix x1)), .unset, .unset] [(.int (16 : Int32)), (.int (own_ix x1))]))
        by_cases hc16 : (own_ix x1) < (16 : Int32)
        · refine own_Goes.step (fun tq kq => XS.icmpNo X15.here hx rfl (hb hby at_82) rfl (XT.ii_ge_f hc16) kq) ?_
          show own_Goes _ _ _ _ _ _ _ (T15.setTop (mkF m 85 #[.val (.int x0), .val (.int x1), .val (.ref a1), .val (.ref a2), .val (.int (own_f1 x0)), .val (.int (1 : Int32)), .val (.int (own_ix x1)), .unset, .unset] []))
          refine own_Goes.step (fun tq kq => XS.aloadN X15.here hx rfl (hb hby at_85) rfl rfl kq) ?_
          show own_Goes _ _ _ _ _ _ _ (T15.setTop (mkF m 86 #[.val (.int x0), .val (.int x1), .val (.ref a1), .val (.ref a2), .val (.int (own_f1 x0)), .val (.int (1 : Int32)), .val (.int (own_ix x1)), .unset, .unset] [(.ref a1)]))
          refine own_Goes.step (fun tq kq => XS.iload X15.here hx rfl (hb hby at_86) rfl kq) ?_
          show own_Goes _ _ _ _ _ _ _ (T15.setTop (mkF m 88 #[.val (.int x0), .val (.int x1), .val (.ref a1), .val (.ref a2), .val (.int (own_f1 x0)), .val (.int (1 : Int32)), .val (.int (own_ix x1)), .unset, .unset] [(.int (own_ix x1)), (.ref a1)]))
          obtain ⟨w17, T17, L17, q17, Y17, st17⟩ := own_virt X15 hx hZ e15 EX1 hown (own_at hw 14 rfl) (own_at hw 15 rfl) (own_at hw 17 rfl) (own_at hw 16 rfl) (own_at hw 1 rfl) (own_at hw 18 rfl) (by decide) (own_m2 l Z a0 hw [] a1 (own_ix x1) b1 G1 G3 own_lo ((own_ix x1)).toInt.toNat 0 h2 O2 P5 O4 rG3 EX1 FC1 FV1 RB1 (own_i1 x1 hc16).1 (own_i1 x1 hc16).2) (by decide) (W := 0) (by decide) (by decide) (by decide) (g := (mkF m 88 #[.val (.int x0), .val (.int x1), .val (.ref a1), .val (.ref a2), .val (.int (own_f1 x0)), .val (.int (1 : Int32)), .val (.int (own_ix x1)), .unset, .unset] [(.int (own_ix x1)), (.ref a1)])) rfl (by rw [hml]; rfl) (argsL := [(.int (own_ix x1))]) (rest := []) (lenOf pd_2 rfl) rfl (by show 2 * 0 + _ ≤ _; exact Nat.le_of_eq rfl) (hb hby at_88)
          obtain ⟨e17, X17⟩ := own_clean q17 Y17 rfl rfl
          obtain ⟨rfl, -, -⟩ := q17
          refine own_Goes.step st17 ?_
          show own_Goes _ _ _ _ _ _ _ (T17.setTop (mkF m 91 #[.val (.int x0), .val (.int x1), .val (.ref a1), .val (.ref a2), .val (.int (own_f1 x0)), .val (.int (1 : Int32)), .val (.int (own_ix x1)), .unset, .unset] [(.int (own_cl (own_ix x1)))]))
          refine own_Goes.step (fun tq kq => XS.istore X17.here hx rfl (hb hby at_91) rfl (l' := #[.val (.int x0), .val (.int x1), .val (.ref a1), .val (.ref a2), .val (.int (own_f1 x0)), .val (.int (1 : Int32)), .val (.int (own_ix x1)), .val (.int (own_cl (own_ix x1))), .unset]) rfl kq) ?_
          show own_Goes _ _ _ _ _ _ _ (T17.setTop (mkF m 93 #[.val (.int x0), .val (.int x1), .val (.ref a1), .val (.ref a2), .val (.int (own_f1 x0)), .val (.int (1 : Int32)), .val (.int (own_ix x1)), .val (.int (own_cl (own_ix x1))), .unset] []))
          refine own_Goes.step (fun tq kq => XS.iload X17.here hx rfl (hb hby at_93) rfl kq) ?_
          show own_Goes _ _ _ _ _ _ _ (T17.setTop (mkF m 95 #[.val (.int x0), .val (.int x1), .val (.ref a1), .val (.ref a2), .val (.int (own_f1 x0)), .val (.int (1 : Int32)), .val (.int (own_ix x1)), .val (.int (own_cl (own_ix x1))), .unset] [(.int (own_ix x1))]))
          refine own_Goes.step (fun tq kq => XS.istore X17.here hx rfl (hb hby at_95) rfl (l' := #[.val (.int x0), .val (.int x1), .val (.ref a1), .val (.ref a2), .val (.int (own_f1 x0)), .val (.int (1 : Int32)), .val (.int (own_ix x1)), .val (.int (own_cl (own_ix x1))), .val (.int (own_ix x1))]) rfl kq) ?_
          show own_Goes _ _ _ _ _ _ _ (T17.setTop (mkF m 97 #[.val (.int x0), .val (.int x1), .val (.ref a1), .val (.ref a2), .val (.int (own_f1 x0)), .val (.int (1 : Int32)), .val (.int (own_ix x1)), .val (.int (own_cl (own_ix x1))), .val (.int (own_ix x1))] []))
          refine own_Goes.step (fun tq kq => XS.goto X17.here hx rfl (pc0 := 97) (pc' := 118) rfl (hb hby at_97) (by decide) (by decide) kq) ?_
          show own_Goes _ _ _ _ _ _ _ (T17.setTop (mkF m 118 #[.val (.int x0), .val (.int x1), .val (.ref a1), .val (.ref a2), .val (.int (own_f1 x0)), .val (.int (1 : Int32)), .val (.int (own_ix x1)), .val (.int (own_cl (own_ix x1))), .val (.int (own_ix x1))] []))
          refine own_Goes.step (fun tq kq => XS.iload X17.here hx rfl (hb hby at_118) rfl kq) ?_
          show own_Goes _ _ _ _ _ _ _ (T17.setTop (mkF m 120 #[.val (.int x0), .val (.int x1), .val (.ref a1), .val (.ref a2), .val (.int (own_f1 x0)), .val (.int (1 : Int32)), .val (.int (own_ix x1)), .val (.int (own_cl (own_ix x1))), .val (.int (own_ix x1))] [(.int (1 : Int32))]))
          refine own_Goes.step (fun tq kq => XS.ifNo X17.here hx rfl (hb hby at_120) rfl (XT.i0_eq_f (by decide)) kq) ?_
          show own_Goes _ _ _ _ _ _ _ (T17.setTop (mkF m 123 #[.val (.int x0), .val (.int x1), .val (.ref a1), .val (.ref a2), .val (.int (own_f1 x0)), .val (.int (1 : Int32)), .val (.int (own_ix x1)), .val (.int (own_cl (own_ix x1))), .val (.int (own_ix x1))] []))
          refine own_Goes.step (fun tq kq => XS.iload X17.here hx rfl (hb hby at_123) rfl kq) ?_
          show own_Goes _ _ _ _ _ _ _ (T17.setTop (mkF m 125 #[.val (.int x0), .val (.int x1), .val (.ref a1), .val (.ref a2), .val (.int (own_f1 x0)), .val (.int (1 : Int32)), .val (.int (own_ix x1)), .val (.int (own_cl (own_ix x1))), .val (.int (own_ix x1))] [(.int (own_cl (own_ix x1)))]))
          obtain ⟨w18, T18, L18, q18, Y18, st18⟩ := own_stat X17 hx hZ e17 hown (own_at hw 9 rfl) (own_at hw 10 rfl) (own_at hw 11 rfl) (own_at hw 12 rfl) (by decide) (own_m1 l Z a0 hw [] (own_cl (own_ix x1)) h2 ) (by decide) (W := 0) (by decide) (by decide) (by decide) (g := (mkF m 125 #[.val (.int x0), .val (.int x1), .val (.ref a1), .val (.ref a2), .val (.int (own_f1 x0)), .val (.int (1 : Int32)), .val (.int (own_ix x1)), .val (.int (own_cl (own_ix x1))), .val (.int (own_ix x1))] [(.int (own_cl (own_ix x1)))])) rfl (by rw [hml]; rfl) (argsL := [(.int (own_cl (own_ix x1)))]) (rest := []) (lenOf pd_1 rfl) rfl (by show 2 * 0 + _ ≤ _; exact Nat.le_of_eq rfl) (hb hby at_125)
          obtain ⟨e18, X18⟩ := own_clean q18 Y18 rfl rfl
          obtain ⟨rfl, -, -⟩ := q18
          refine own_Goes.step st18 ?_
          show own_Goes _ _ _ _ _ _ _ (T18.setTop (mkF m 128 #[.val (.int x0), .val (.int x1), .val (.ref a1), .val (.ref a2), .val (.int (own_f1 x0)), .val (.int (1 : Int32)), .val (.int (own_ix x1)), .val (.int (own_cl (own_ix x1))), .val (.int (own_ix x1))] [(.int (own_f1 (own_cl (own_ix x1))))]))
          refine own_Goes.step (fun tq kq => XS.iload X18.here hx rfl (hb hby at_128) rfl kq) ?_
          show own_Goes _ _ _ _ _ _ _ (T18.setTop (mkF m 130 #[.val (.int x0), .val (.int x1), .val (.ref a1), .val (.ref a2), .val (.int (own_f1 x0)), .val (.int (1 : Int32)), .val (.int (own_ix x1)), .val (.int (own_cl (own_ix x1))), .val (.int (own_ix x1))] [(.int (own_ix x1)), (.int (own_f1 (own_cl (own_ix x1))))]))
          refine own_Goes.step (fun tq kq => XS.icmpNo X18.here hx rfl (hb hby at_130) rfl (XT.ii_ne_f ((own_dd x1).1 hc16)) kq) ?_
          show own_Goes _ _ _ _ _ _ _ (T18.setTop (mkF m 133 #[.val (.int x0), .val (.int x1), .val (.ref a1), .val (.ref a2), .val (.int (own_f1 x0)), .val (.int (1 : Int32)), .val (.int (own_ix x1)), .val (.int (own_cl (own_ix x1))), .val (.int (own_ix x1))] []))
          refine own_Goes.step (fun tq kq => XT.iconstV X18.here hx rfl (1 : Int32) (hb hby at_133) (by decide) kq) ?_
          show own_Goes _ _ _ _ _ _ _ (T18.setTop (mkF m 134 #[.val (.int x0), .val (.int x1), .val (.ref a1), .val (.ref a2), .val (.int (own_f1 x0)), .val (.int (1 : Int32)), .val (.int (own_ix x1)), .val (.int (own_cl (own_ix x1))), .val (.int (own_ix x1))] [(.int (1 : Int32))]))
          refine own_Goes.step (fun tq kq => XS.goto X18.here hx rfl (pc0 := 134) (pc' := 138) rfl (hb hby at_134) (by decide) (by decide) kq) ?_
          show own_Goes _ _ _ _ _ _ _ (T18.setTop (mkF m 138 #[.val (.int x0), .val (.int x1), .val (.ref a1), .val (.ref a2), .val (.int (own_f1 x0)), .val (.int (1 : Int32)), .val (.int (own_ix x1)), .val (.int (own_cl (own_ix x1))), .val (.int (own_ix x1))] [(.int (1 : Int32))]))
          exact own_endN X18 hx Bd.notSynchronized (t := .boolean) Bd.returns (by simp) (hb hby at_138) ⟨rfl, rfl, e18⟩ (by decide) (by decide)
        · refine own_Goes.step (fun tq kq => XS.icmpYes X15.here hx rfl (pc0 := 82) (pc' := 100) rfl (hb hby at_82) rfl (XT.ii_ge_t hc16) (by decide) (by decide) kq) ?_
          show own_Goes _ _ _ _ _ _ _ (T15.setTop (mkF m 100 #[.val (.int x0), .val (.int x1), .val (.ref a1), .val (.ref a2), .val (.int (own_f1 x0)), .val (.int (1 : Int32)), .val (.int (own_ix x1)), .unset, .unset] []))
          refine own_Goes.step (fun tq kq => XS.aloadN X15.here hx rfl (hb hby at_100) rfl rfl kq) ?_
          show own_Goes _ _ _ _ _ _ _ (T15.setTop (mkF m 101 #[.val (.int x0), .val (.int x1), .val (.ref a1), .val (.ref a2), .val (.int (own_f1 x0)), .val (.int (1 : Int32)), .val (.int (own_ix x1)), .unset, .unset] [(.ref a2)]))
          refine own_Goes.step (fun tq kq => XS.iload X15.here hx rfl (hb hby at_101) rfl kq) ?_
          show own_Goes _ _ _ _ _ _ _ (T15.setTop (mkF m 103 #[.val (.int x0), .val (.int x1), .val (.ref a1), .val (.ref a2), .val (.int (own_f1 x0)), .val (.int (1 : Int32)), .val (.int (own_ix x1)), .unset, .unset] [(.int (own_ix x1)), (.ref a2)]))
          refine own_Goes.step (fun tq kq => XT.bipushV X15.here hx rfl (6 : Int32) (hb hby at_103) (by decide) kq) ?_
          show own_Goes _ _ _ _ _ _ _ (T15.setTop (mkF m 105 #[.val (.int x0), .val (.int x1), .val (.ref a1), .val (.ref a2), .val (.int (own_f1 x0)), .val (.int (1 : Int32)), .val (.int (own_ix x1)), .unset, .unset] [(.int (6 : Int32)), (.int (own_ix x1)), (.ref a2)]))
          refine own_Goes.step (fun tq kq => XS.isub X15.here hx rfl (hb hby at_105) rfl kq) ?_
          show own_Goes _ _ _ _ _ _ _ (T15.setTop (mkF m 106 #[.val (.int x0), .val (.int x1), .val (.ref a1), .val (.ref a2), .val (.int (own_f1 x0)), .val (.int (1 : Int32)), .val (.int (own_ix x1)), .unset, .unset] [(.int ((own_ix x1) - (6 : Int32))), (.ref a2)]))
          obtain ⟨w19, T19, L19, q19, Y19, st19⟩ := own_virt X15 hx hZ e15 EX2 hown (own_at hw 14 rfl) (own_at hw 15 rfl) (own_at hw 17 rfl) (own_at hw 16 rfl) (own_at hw 1 rfl) (own_at hw 18 rfl) (by decide) (own_m2 l Z a0 hw [] a2 ((own_ix x1) - (6 : Int32)) b2 G1 G3 own_up ((own_ix x1 - (6 : Int32))).toInt.toNat 0 h2 O2 P5 O4 rG3 EX2 FC2 FV2 RB2 (own_i2 x1 hc16).1 (own_i2 x1 hc16).2) (by decide) (W := 0) (by decide) (by decide) (by decide) (g := (mkF m 106 #[.val (.int x0), .val (.int x1), .val (.ref a1), .val (.ref a2), .val (.int (own_f1 x0)), .val (.int (1 : Int32)), .val (.int (own_ix x1)), .unset, .unset] [(.int ((own_ix x1) - (6 : Int32))), (.ref a2)])) rfl (by rw [hml]; rfl) (argsL := [(.int ((own_ix x1) - (6 : Int32)))]) (rest := []) (lenOf pd_2 rfl) rfl (by show 2 * 0 + _ ≤ _; exact Nat.le_of_eq rfl) (hb hby at_106)
          obtain ⟨e19, X19⟩ := own_clean q19 Y19 rfl rfl
          obtain ⟨rfl, -, -⟩ := q19
          refine own_Goes.step st19 ?_
          show own_Goes _ _ _ _ _ _ _ (T19.setTop (mkF m 109 #[.val (.int x0), .val (.int x1), .val (.ref a1), .val (.ref a2), .val (.int (own_f1 x0)), .val (.int (1 : Int32)), .val (.int (own_ix x1)), .unset, .unset] [(.int (own_cu (own_ix x1 - (6 : Int32))))]))
          refine own_Goes.step (fun tq kq => XS.istore X19.here hx rfl (hb hby at_109) rfl (l' := #[.val (.int x0), .val (.int x1), .val (.ref a1), .val (.ref a2), .val (.int (own_f1 x0)), .val (.int (1 : Int32)), .val (.int (own_ix x1)), .val (.int (own_cu (own_ix x1 - (6 : Int32)))), .unset]) rfl kq) ?_
          show own_Goes _ _ _ _ _ _ _ (T19.setTop (mkF m 111 #[.val (.int x0), .val (.int x1), .val (.ref a1), .val (.ref a2), .val (.int (own_f1 x0)), .val (.int (1 : Int32)), .val (.int (own_ix x1)), .val (.int (own_cu (own_ix x1 - (6 : Int32)))), .unset] []))
          refine own_Goes.step (fun tq kq => XS.iload X19.here hx rfl (hb hby at_111) rfl kq) ?_
          show own_Goes _ _ _ _ _ _ _ (T19.setTop (mkF m 113 #[.val (.int x0), .val (.int x1), .val (.ref a1), .val (.ref a2), .val (.int (own_f1 x0)), .val (.int (1 : Int32)), .val (.int (own_ix x1)), .val (.int (own_cu (own_ix x1 - (6 : Int32)))), .unset] [(.int (own_ix x1))]))
          refine own_Goes.step (fun tq kq => XT.bipushV X19.here hx rfl (6 : Int32) (hb hby at_113) (by decide) kq) ?_
          show own_Goes _ _ _ _ _ _ _ (T19.setTop (mkF m 115 #[.val (.int x0), .val (.int x1), .val (.ref a1), .val (.ref a2), .val (.int (own_f1 x0)), .val (.int (1 : Int32)), .val (.int (own_ix x1)), .val (.int (own_cu (own_ix x1 - (6 : Int32)))), .unset] [(.int (6 : Int32)), (.int (own_ix x1))]))
          refine own_Goes.step (fun tq kq => XS.isub X19.here hx rfl (hb hby at_115) rfl kq) ?_
          show own_Goes _ _ _ _ _ _ _ (T19.setTop (mkF m 116 #[.val (.int x0), .val (.int x1), .val (.ref a1), .val (.ref a2), .val (.int (own_f1 x0)), .val (.int (1 : Int32)), .val (.int (own_ix x1)), .val (.int (own_cu (own_ix x1 - (6 : Int32)))), .unset] [(.int ((own_ix x1) - (6 : Int32)))]))
          refine own_Goes.step (fun tq kq => XS.istore X19.here hx rfl (hb hby at_116) rfl (l' := #[.val (.int x0), .val (.int x1), .val (.ref a1), .val (.ref a2), .val (.int (own_f1 x0)), .val (.int (1 : Int32)), .val (.int (own_ix x1)), .val (.int (own_cu (own_ix x1 - (6 : Int32)))), .val (.int ((own_ix x1) - (6 : Int32)))]) rfl kq) ?_
          show own_Goes _ _ _ _ _ _ _ (T19.setTop (mkF m 118 #[.val (.int x0), .val (.int x1), .val (.ref a1), .val (.ref a2), .val (.int (own_f1 x0)), .val (.int (1 : Int32)), .val (.int (own_ix x1)), .val (.int (own_cu (own_ix x1 - (6 : Int32)))), .val (.int ((own_ix x1) - (6 : Int32)))] []))
          refine own_Goes.step (fun tq kq => XS.iload X19.here hx rfl (hb hby at_118) rfl kq) ?_
          show own_Goes _ _ _ _ _ _ _ (T19.setTop (mkF m 120 #[.val (.int x0), .val (.int x1), .val (.ref a1), .val (.ref a2), .val (.int (own_f1 x0)), .val (.int (1 : Int32)), .val (.int (own_ix x1)), .val (.int (own_cu (own_ix x1 - (6 : Int32)))), .val (.int ((own_ix x1) - (6 : Int32)))] [(.int (1 : Int32))]))
          refine own_Goes.step (fun tq kq => XS.ifNo X19.here hx rfl (hb hby at_120) rfl (XT.i0_eq_f (by decide)) kq) ?_
          show own_Goes _ _ _ _ _ _ _ (T19.setTop (mkF m 123 #[.val (.int x0), .val (.int x1), .val (.ref a1), .val (.ref a2), .val (.int (own_f1 x0)), .val (.int (1 : Int32)), .val (.int (own_ix x1)), .val (.int (own_cu (own_ix x1 - (6 : Int32)))), .val (.int ((own_ix x1) - (6 : Int32)))] []))
          refine own_Goes.step (fun tq kq => XS.iload X19.here hx rfl (hb hby at_123) rfl kq) ?_
          show own_Goes _ _ _ _ _ _ _ (T19.setTop (mkF m 125 #[.val (.int x0), .val (.int x1), .val (.ref a1), .val (.ref a2), .val (.int (own_f1 x0)), .val (.int (1 : Int32)), .val (.int (own_ix x1)), .val (.int (own_cu (own_ix x1 - (6 : Int32)))), .val (.int ((own_ix x1) - (6 : Int32)))] [(.int (own_cu (own_ix x1 - (6 : Int32))))]))
          obtain ⟨w20, T20, L20, q20, Y20, st20⟩ := own_stat X19 hx hZ e19 hown (own_at hw 9 rfl) (own_at hw 10 rfl) (own_at hw 11 rfl) (own_at hw 12 rfl) (by decide) (own_m1 l Z a0 hw [] (own_cu (own_ix x1 - (6 : Int32))) h2 ) (by decide) (W := 0) (by decide) (by decide) (by decide) (g := (mkF m 125 #[.val (.int x0), .val (.int x1), .val (.ref a1), .val (.ref a2), .val (.int (own_f1 x0)), .val (.int (1 : Int32)), .val (.int (own_ix x1)), .val (.int (own_cu (own_ix x1 - (6 : Int32)))), .val (.int ((own_ix x1) - (6 : Int32)))] [(.int (own_cu (own_ix x1 - (6 : Int32))))])) rfl (by rw [hml]; rfl) (argsL := [(.int (own_cu (own_ix x1 - (6 : Int32))))]) (rest := []) (lenOf pd_1 rfl) rfl (by show 2 * 0 + _ ≤ _; exact Nat.le_of_eq rfl) (hb hby at_125)
          obtain ⟨e20, X20⟩ := own_clean q20 Y20 rfl rfl
          obtain ⟨rfl, -, -⟩ := q20
          refine own_Goes.step st20 ?_
          show own_Goes _ _ _ _ _ _ _ (T20.setTop (mkF m 128 #[.val (.int x0), .val (.int x1), .val (.ref a1), .val (.ref a2), .val (.int (own_f1 x0)), .val (.int (1 : Int32)), .val (.int (own_ix x1)), .val (.int (own_cu (own_ix x1 - (6 : Int32)))), .val (.int ((own_ix x1) - (6 : Int32)))] [(.int (own_f1 (own_cu (own_ix x1 - (6 : Int32)))))]))
          refine own_Goes.step (fun tq kq => XS.iload X20.here hx rfl (hb hby at_128) rfl kq) ?_
          show own_Goes _ _ _ _ _ _ _ (T20.setTop (mkF m 130 #[.val (.int x0), .val (.int x1), .val (.ref a1), .val (.ref a2), .val (.int (own_f1 x0)), .val (.int (1 : Int32)), .val (.int (own_ix x1)), .val (.int (own_cu (own_ix x1 - (6 : Int32)))), .val (.int ((own_ix x1) - (6 : Int32)))] [(.int ((own_ix x1) - (6 : Int32))), (.int (own_f1 (own_cu (own_ix x1 - (6 : Int32)))))]))
          refine own_Goes.step (fun tq kq => XS.icmpNo X20.here hx rfl (hb hby at_130) rfl (XT.ii_ne_f ((own_dd x1).2 hc16)) kq) ?_
          show own_Goes _ _ _ _ _ _ _ (T20.setTop (mkF m 133 #[.val (.int x0), .val (.int x1), .val (.ref a1), .val (.ref a2), .val (.int (own_f1 x0)), .val (.int (1 : Int32)), .val (.int (own_ix x1)), .val (.int (own_cu (own_ix x1 - (6 : Int32)))), .val (.int ((own_ix x1) - (6 : Int32)))] []))
          refine own_Goes.step (fun tq kq => XT.iconstV X20.here hx rfl (1 : Int32) (hb hby at_133) (by decide) kq) ?_
          show own_Goes _ _ _ _ _ _ _ (T20.setTop (mkF m 134 #[.val (.int x0), .val (.int x1), .val (.ref a1), .val (.ref a2), .val (.int (own_f1 x0)), .val (.int (1 : Int32)), .val (.int (own_ix x1)), .val (.int (own_cu (own_ix x1 - (6 : Int32)))), .val (.int ((own_ix x1) - (6 : Int32)))] [(.int (1 : Int32))]))
          refine own_Goes.step (fun tq kq => XS.goto X20.here hx rfl (pc0 := 134) (pc' := 138) rfl (hb hby at_134) (by decide) (by decide) kq) ?_
          show own_Goes _ _ _ _ _ _ _ (T20.setTop (mkF m 138 #[.val (.int x0), .val (.int x1), .val (.ref a1), .val (.ref a2), .val (.int (own_f1 x0)), .val (.int (1 : Int32)), .val (.int (own_ix x1)), .val (.int (own_cu (own_ix x1 - (6 : Int32)))), .val (.int ((own_ix x1) - (6 : Int32)))] [(.int (1 : Int32))]))
          exact own_endN X20 hx Bd.notSynchronized (t := .boolean) Bd.returns (by simp) (hb hby at_138) ⟨rfl, rfl, e20⟩ (by decide) (by decide)
  obtain ⟨t2, o2, q1, q2, q3, v, L, rfl, ⟨rfl, rfl, q4⟩, q5⟩ := hgo
  subst hs2
  obtain ⟨ra, rb, rc⟩ := S2.ended (U := t2) q5.2.1 (by rw [q4]; exact g2) q5.2.2
  exact ⟨t2, _, castTop (ef_0 m x0 x1) q1, q2, q3, rfl, ⟨_, rfl⟩, ra, rb, rc⟩
set_option maxRecDepth 65536 in
set_option maxHeartbeats 40000000 in
theorem comes_1 {Post : Tables → Env → Array Value → State → Outcome → State → Prop} (hpost : ∀ tb e args s v u, (limb_1_1.after args s (.returned v) u = true ∧ limb_1_2.after args s (.returned v) u = true ∧ True) → Jvm.D.FramedW s (.returned v) u (Jvm.fieldLocs frame_1_writes args s ++ Jvm.arrayLocs frame_1_arrays args s ++ Jvm.staticLocs frame_1_statics s) 8 2112 → Post tb e args s (.returned v) u) :
    ArmFor flags0 classFile x code maxLocals ret World_1 tables_1 room_1 Calls_1 rest_1 Pre_1 Post := by
  intro l hfl _ _ p e ha hc hk s m args below hf hA hF happ hP
  obtain ⟨hcalls, hrest, hpre⟩ := hP
  obtain ⟨-, -, -, hnamed, -, -, -, hat⟩ := (Spec.applies_iff hf).mp happ
  obtain ⟨hg, hn⟩ := and_e (Cond.before_iff.mp (show (Jvm.Cond.and given_1 narrow_1).before args s = true from hpre))
  obtain ⟨hcount, hr0⟩ := and_e hg
  obtain ⟨w0, w1, rfl⟩ : ∃ w0 w1 : Value, args = #[w0, w1] := by
    have hs : args.size = 2 := by simpa [Cond.value, given_1] using hcount
    obtain ⟨L⟩ := args
    match L, hs with
    | [w0, w1], _ => exact ⟨w0, w1, rfl⟩
  have hw := fun d (hd : d ∈ tables_1) => atoms_spec (ws := Jvm.Cond.code x code maxLocals ret :: tables_1) hat d (List.mem_cons_of_mem _ hd)
  obtain ⟨ha0, hr1⟩ := and_e hr0
  obtain ⟨i0, ev0⟩ := is_v ha0
  obtain rfl : w0 = (.int i0) := Option.some.inj ev0
  obtain ⟨i1, ev1⟩ := is_v hr1
  obtain rfl : w1 = (.int i1) := Option.some.inj ev1
  obtain ⟨hsets, -⟩ := atoms_of _ (rest_1_c_eq ▸ (show rest_1_c.before _ s = true from hrest))
  have n5 := not_v (Cond.before_iff.mp (hsets _ (List.mem_of_getElem? (i := 2) rfl)))
  obtain ⟨i11, e10⟩ := is_v (Cond.before_iff.mp (hsets _ (List.mem_of_getElem? (i := 1) rfl)))
  have S12 : Sta s s.heap "java/lang/String" "COMPACT_STRINGS" "Z" (.int i11) := Sta.start e10 (Or.inl (hsets _ (List.mem_of_getElem? (i := 0) rfl)))
  obtain ⟨v13, e14, r15⟩ := isR_v (Cond.before_iff.mp (hsets _ (List.mem_of_getElem? (i := 8) rfl)))
  have S16 : Sta s s.heap "jdk/internal/util/Preconditions" "SIOOBE_FORMATTER" "Ljava/util/function/BiFunction;" v13 := Sta.start e14 (Or.inl (hsets _ (List.mem_of_getElem? (i := 7) rfl)))
  have P5 : ¬ (i11 = (0 : Int32)) := gotF (Cond.eq_ints e10 (Term.int_eval (0))) n5
  obtain ⟨n, o, h1, h2, h3, rfl, hq⟩ := own_m0 l s _ hw tables_1 i0 i1 i11 v13 S12 P5 S16 r15 (hsets _ (List.mem_of_getElem? (i := 2) rfl)) (hcalls.1 ("com/example/librobots/librobots/robots/UrlPathsHexDigitPinLaw", 7) (List.mem_of_getElem? (i := 0) rfl)) (hcalls.1 ("com/example/librobots/librobots/robots/UrlPathsHexDigitPinLaw", 9) (List.mem_of_getElem? (i := 1) rfl)) p e ha hc hk s m _ below hf ((Spec.applies_iff_loose hf).mp happ).1 ⟨rfl, rfl, rfl⟩ trivial
  refine ⟨n, _, h1, h2, h3, hpost _ _ _ _ _ _ ⟨Cond.after_iff.mpr rfl, Cond.after_iff.mpr (eq_i res_at (Term.int_eval (1)) rfl), trivial⟩ ⟨hq.1, hq.2.1, hq.2.2.1, hq.2.2.2.sift fun y hy => by cases hy⟩⟩
theorem main_1_1 : Claimed_1_1 := comes_1 fun _ _ _ _ _ _ h hF => ⟨h.1, hF⟩
theorem main_1_2 : Claimed_1_2 := comes_1 fun _ _ _ _ _ _ h hF => ⟨h.2.1, hF⟩
end Jvm.Pilot.@@N@@
namespace Jvm.Pilot.@@N@@
open Jvm Jvm.ClassFile Sem Op Lib Jvm.Free Jvm.Stand Jvm.Pilot.@@N@@.Jvm.D
/-! MADE BY PROGRAM (witnessworld.py) out of the Statement's table words and the real class files: 17 classes; the members and pool entries that the words name. The judged class is class 1, her method 1. -/
namespace start1
open Jvm.ClassFile
def u (s : String) : CpInfo := .utf8 (stringToUtf16 s)
/-- a pool by its gaps: so many unusable entries, then the entry; so many at the end -/
def gap : Nat → List CpInfo → List CpInfo
  | 0, r => r
  | n + 1, r => .unusable :: gap n r
def poolList (es : List (Nat × CpInfo)) (last : Nat) : List CpInfo := es.foldr (fun e r => gap e.1 (e.2 :: r)) (gap last [])
def pool (es : List (Nat × CpInfo)) (last : Nat) : Array CpInfo := ⟨poolList es last⟩
def fileOf (pool : Array CpInfo) (this : Nat) (attrs : Array Attribute := #[]) (ms : Array MethodInfo := #[]) (fl : Nat := 33) (sup : Nat := 0) (ifs : Array Nat := #[]) (fds : Array FieldInfo := #[]) : ClassFile where
  minorVersion := 0
  majorVersion := 65
  constantPool := pool
  accessFlags := fl
  thisClass := this
  superClass := sup
  interfaces := ifs
  fields := fds
  methods := ms
  attributes := attrs
def plain (name : String) (sup : Option ClassId) : Class where
  name := name
  kind := .ordinary
  loader := none
  accessFlags := 33
  super := sup
  interfaces := #[]
  cf := none
  fields := #[]
  methods := #[]
  instanceTypes := #[]
  staticTypes := #[]
  resolved := #[]
  callSites := []
  init := .initialized
  statics := none
  mirror := none

def pool0 : Array CpInfo := pool [(5, u "<init>"), (0, u "()V"), (1, .class_ 10), (1, u "java/lang/Object")] 113

def k0m0 : Method := { name := "<init>", desc := "()V", sig := { parameters := [], returnType := none }, accessFlags := 1, code := none }
/-- java/lang/Object -/
def k0 : Class := { plain "java/lang/Object" none with
  accessFlags := 33
  interfaces := #[]
  cf := some (fileOf pool0 8 #[] #[{ accessFlags := 1, nameIndex := 5, descriptorIndex := 6, attributes := #[] }] 33 0 #[] #[])
  fields := #[]
  methods := #[k0m0]
  instanceTypes := #[]
  staticTypes := #[]
  resolved := Array.replicate 124 none
  statics := none }

def pool1 : Array CpInfo := pool [(2, .class_ 4), (1, u "java/lang/Object"), (0, u "<init>"), (0, u "()V"), (0, .string 8), (0, u "0123456789abcdef"), (0, .string 10), (0, u "0123456789ABCDEF"), (0, .methodref 12 13), (0, .class_ 14), (0, .nameAndType 15 16), (0, u "com/example/librobots/librobots/robots/UrlPaths"), (0, u "hexDigit"), (0, u "(I)I"), (0, .methodref 18 19), (0, .class_ 20), (0, .nameAndType 21 22), (0, u "java/lang/String"), (0, u "charAt"), (0, u "(I)C"), (0, .integer 2147483647), (0, .class_ 25), (0, u "com/example/librobots/librobots/robots/UrlPathsHexDigitPinLaw"), (2, u "law"), (0, u "(II)Z")] 3

def k1m0 : Method := { name := "<init>", desc := "()V", sig := { parameters := [], returnType := none }, accessFlags := 1, code := none }
def k1c1 : Code := { maxStack := 3, maxLocals := 9, code := code, exceptionTable := #[], attributes := #[] }
def k1m1 : Method := { name := "law", desc := "(II)Z", sig := { parameters := [.int, .int], returnType := some .boolean }, accessFlags := 9, code := some k1c1 }
/-- com/example/librobots/librobots/robots/UrlPathsHexDigitPinLaw -/
def k1 : Class := { plain "com/example/librobots/librobots/robots/UrlPathsHexDigitPinLaw" (some 0) with
  accessFlags := 49
  interfaces := #[]
  cf := some (fileOf pool1 24 #[] #[{ accessFlags := 1, nameIndex := 5, descriptorIndex := 6, attributes := #[] }, { accessFlags := 9, nameIndex := 28, descriptorIndex := 29, attributes := #[] }] 49 2 #[] #[])
  fields := #[]
  methods := #[k1m0, k1m1]
  instanceTypes := #[]
  staticTypes := #[]
  resolved := Array.replicate 33 none
  statics := none }

def pool2 : Array CpInfo := pool [(1, .class_ 2), (0, u "java/io/Serializable"), (0, .class_ 4), (0, u "java/lang/Object")] 2

/-- java/io/Serializable -/
def k2 : Class := { plain "java/io/Serializable" (some 0) with
  accessFlags := 1537
  interfaces := #[]
  cf := some (fileOf pool2 1 #[] #[] 1537 3 #[] #[])
  fields := #[]
  methods := #[]
  instanceTypes := #[]
  staticTypes := #[]
  resolved := Array.replicate 7 none
  statics := none }

def pool3 : Array CpInfo := pool [(1, .class_ 2), (0, u "java/lang/Comparable"), (0, .class_ 4), (0, u "java/lang/Object")] 7

/-- java/lang/Comparable -/
def k3 : Class := { plain "java/lang/Comparable" (some 0) with
  accessFlags := 1537
  interfaces := #[]
  cf := some (fileOf pool3 1 #[] #[] 1537 3 #[] #[])
  fields := #[]
  methods := #[]
  instanceTypes := #[]
  staticTypes := #[]
  resolved := Array.replicate 12 none
  statics := none }

def pool4 : Array CpInfo := pool [(2, .class_ 4), (1, u "java/lang/CharSequence"), (42, .class_ 48), (0, u "java/lang/CharSequence$1CodePointIterator"), (10, .class_ 60), (0, u "java/lang/CharSequence$1CharIterator"), (5, .class_ 67), (0, u "java/lang/Object")] 63

/-- java/lang/CharSequence -/
def k4 : Class := { plain "java/lang/CharSequence" (some 0) with
  accessFlags := 1537
  interfaces := #[]
  cf := some (fileOf pool4 2 #[.nestMembers #[47, 59]] #[] 1537 66 #[] #[])
  fields := #[]
  methods := #[]
  instanceTypes := #[]
  staticTypes := #[]
  resolved := Array.replicate 131 none
  statics := none }

def pool5 : Array CpInfo := pool [(1, .class_ 2), (0, u "java/lang/constant/Constable"), (0, .class_ 4), (0, u "java/lang/Object")] 6

/-- java/lang/constant/Constable -/
def k5 : Class := { plain "java/lang/constant/Constable" (some 0) with
  accessFlags := 1537
  interfaces := #[]
  cf := some (fileOf pool5 1 #[] #[] 1537 3 #[] #[])
  fields := #[]
  methods := #[]
  instanceTypes := #[]
  staticTypes := #[]
  resolved := Array.replicate 11 none
  statics := none }

def pool6 : Array CpInfo := pool [(1, .class_ 2), (0, u "java/lang/constant/ConstantDesc"), (0, .class_ 4), (0, u "java/lang/Object")] 32

/-- java/lang/constant/ConstantDesc -/
def k6 : Class := { plain "java/lang/constant/ConstantDesc" (some 0) with
  accessFlags := 1537
  interfaces := #[]
  cf := some (fileOf pool6 1 #[] #[] 1537 3 #[] #[])
  fields := #[]
  methods := #[]
  instanceTypes := #[]
  staticTypes := #[]
  resolved := Array.replicate 37 none
  statics := none }

def pool7 : Array CpInfo := pool [(2, .class_ 4), (1, u "java/lang/Object"), (0, u "<init>"), (0, u "()V"), (2, .fieldref 10 11), (0, .class_ 12), (0, .nameAndType 13 14), (0, u "java/lang/String"), (0, u "value"), (0, u "[B"), (0, .fieldref 10 16), (0, .nameAndType 17 18), (0, u "coder"), (0, u "B"), (2, u "hash"), (0, u "I"), (2, u "hashIsZero"), (0, u "Z"), (11, .fieldref 10 39), (0, .nameAndType 40 26), (0, u "COMPACT_STRINGS"), (66, .class_ 109), (1, u "java/lang/StringLatin1"), (32, u "()Z"), (220, u "([BI)C"), (27, u "(II)V"), (35, u "(I)C"), (64, .methodref 10 493), (0, .nameAndType 494 142), (0, u "isLatin1"), (0, .methodref 107 496), (0, .nameAndType 497 363), (0, u "charAt"), (3, u "checkIndex"), (73, .class_ 576), (0, u "java/lang/CharSequence"), (22, u "CASE_INSENSITIVE_ORDER"), (0, u "Ljava/util/Comparator;"), (452, .fieldref 1054 1055), (0, .class_ 1056), (0, .nameAndType 1057 1058), (0, u "jdk/internal/util/Preconditions"), (0, u "SIOOBE_FORMATTER"), (0, u "Ljava/util/function/BiFunction;"), (0, .methodref 1054 1060), (0, .nameAndType 501 1061), (0, u "(IILjava/util/function/BiFunction;)I"), (39, u "serialPersistentFields"), (0, u "[Ljava/io/ObjectStreamField;"), (0, .class_ 1104), (0, u "java/lang/String$CaseInsensitiveComparator"), (1, .class_ 1107), (0, u "java/io/Serializable"), (0, .class_ 1109), (0, u "java/lang/Comparable"), (0, .class_ 1111), (0, u "java/lang/constant/Constable"), (0, .class_ 1113), (0, u "java/lang/constant/ConstantDesc"), (2, u "serialVersionUID"), (0, u "J"), (3, u "REPL"), (0, u "C"), (2, u "LATIN1"), (1, u "UTF16")] 323

def k7m0 : Method := { name := "<init>", desc := "()V", sig := { parameters := [], returnType := none }, accessFlags := 1, code := none }
def k7c1 : Code := { maxStack := 2, maxLocals := 2, code := jdk_42_method_56_code, exceptionTable := #[], attributes := #[] }
def k7m1 : Method := { name := "charAt", desc := "(I)C", sig := { parameters := [.int], returnType := some .char }, accessFlags := 1, code := some k7c1 }
def k7c2 : Code := { maxStack := 1, maxLocals := 1, code := jdk_42_method_154_code, exceptionTable := #[], attributes := #[] }
def k7m2 : Method := { name := "isLatin1", desc := "()Z", sig := { parameters := [], returnType := some .boolean }, accessFlags := 0, code := some k7c2 }
def k7c3 : Code := { maxStack := 3, maxLocals := 2, code := jdk_42_method_155_code, exceptionTable := #[], attributes := #[] }
def k7m3 : Method := { name := "checkIndex", desc := "(II)V", sig := { parameters := [.int, .int], returnType := none }, accessFlags := 8, code := some k7c3 }
/-- java/lang/String -/
def k7 : Class := { plain "java/lang/String" (some 0) with
  accessFlags := 49
  interfaces := #[2, 3, 4, 5, 6]
  cf := some (fileOf pool7 10 #[.nestMembers #[1103]] #[{ accessFlags := 1, nameIndex := 5, descriptorIndex := 6, attributes := #[] }, { accessFlags := 1, nameIndex := 497, descriptorIndex := 427, attributes := #[] }, { accessFlags := 0, nameIndex := 494, descriptorIndex := 142, attributes := #[] }, { accessFlags := 8, nameIndex := 501, descriptorIndex := 391, attributes := #[] }] 49 2 #[1106, 1108, 575, 1110, 1112] #[{ accessFlags := 18, nameIndex := 13, descriptorIndex := 14, attributes := #[] }, { accessFlags := 18, nameIndex := 17, descriptorIndex := 18, attributes := #[] }, { accessFlags := 2, nameIndex := 21, descriptorIndex := 22, attributes := #[] }, { accessFlags := 2, nameIndex := 25, descriptorIndex := 26, attributes := #[] }, { accessFlags := 26, nameIndex := 1116, descriptorIndex := 1117, attributes := #[] }, { accessFlags := 24, nameIndex := 40, descriptorIndex := 26, attributes := #[] }, { accessFlags := 26, nameIndex := 1101, descriptorIndex := 1102, attributes := #[] }, { accessFlags := 26, nameIndex := 1121, descriptorIndex := 1122, attributes := #[] }, { accessFlags := 25, nameIndex := 599, descriptorIndex := 600, attributes := #[] }, { accessFlags := 24, nameIndex := 1125, descriptorIndex := 18, attributes := #[] }, { accessFlags := 24, nameIndex := 1127, descriptorIndex := 18, attributes := #[] }])
  fields := #[{ name := "value", type := (.array .byte), accessFlags := 18, slot := 0, constantValue := 0 }, { name := "coder", type := .byte, accessFlags := 18, slot := 1, constantValue := 0 }, { name := "hash", type := .int, accessFlags := 2, slot := 2, constantValue := 0 }, { name := "hashIsZero", type := .boolean, accessFlags := 2, slot := 3, constantValue := 0 }, { name := "serialVersionUID", type := .long, accessFlags := 26, slot := 0, constantValue := 0 }, { name := "COMPACT_STRINGS", type := .boolean, accessFlags := 24, slot := 1, constantValue := 0 }, { name := "serialPersistentFields", type := (.array (.object "java/io/ObjectStreamField")), accessFlags := 26, slot := 2, constantValue := 0 }, { name := "REPL", type := .char, accessFlags := 26, slot := 3, constantValue := 0 }, { name := "CASE_INSENSITIVE_ORDER", type := (.object "java/util/Comparator"), accessFlags := 25, slot := 4, constantValue := 0 }, { name := "LATIN1", type := .byte, accessFlags := 24, slot := 5, constantValue := 0 }, { name := "UTF16", type := .byte, accessFlags := 24, slot := 6, constantValue := 0 }]
  methods := #[k7m0, k7m1, k7m2, k7m3]
  instanceTypes := #[(.array .byte), .byte, .int, .boolean]
  staticTypes := #[.long, .boolean, (.array (.object "java/io/ObjectStreamField")), .char, (.object "java/util/Comparator"), .byte, .byte]
  resolved := Array.replicate 1451 none
  statics := some 0 }

def pool8 : Array CpInfo := pool [(1, .class_ 2), (0, u "com/example/librobots/librobots/robots/UrlPaths"), (1, .class_ 6), (1, u "java/lang/Object"), (0, u "<init>"), (0, u "()V"), (25, u "(I)I"), (82, u "KEPT"), (0, u "[Z"), (2, u "hexDigit"), (5, u "HEX"), (0, u "[C"), (14, u "SUB_DELIMS"), (0, u "Ljava/lang/String;"), (1, u "RESERVED")] 27

def k8m0 : Method := { name := "<init>", desc := "()V", sig := { parameters := [], returnType := none }, accessFlags := 2, code := none }
def k8c1 : Code := { maxStack := 2, maxLocals := 2, code := prog_45_method_7_code, exceptionTable := #[], attributes := #[] }
def k8m1 : Method := { name := "hexDigit", desc := "(I)I", sig := { parameters := [.int], returnType := some .int }, accessFlags := 8, code := some k8c1 }
/-- com/example/librobots/librobots/robots/UrlPaths -/
def k8 : Class := { plain "com/example/librobots/librobots/robots/UrlPaths" (some 0) with
  accessFlags := 49
  interfaces := #[]
  cf := some (fileOf pool8 1 #[] #[{ accessFlags := 2, nameIndex := 7, descriptorIndex := 8, attributes := #[] }, { accessFlags := 8, nameIndex := 121, descriptorIndex := 34, attributes := #[] }] 49 4 #[] #[{ accessFlags := 26, nameIndex := 143, descriptorIndex := 144, attributes := #[] }, { accessFlags := 26, nameIndex := 146, descriptorIndex := 144, attributes := #[] }, { accessFlags := 26, nameIndex := 127, descriptorIndex := 128, attributes := #[] }, { accessFlags := 26, nameIndex := 117, descriptorIndex := 118, attributes := #[] }])
  fields := #[{ name := "SUB_DELIMS", type := (.object "java/lang/String"), accessFlags := 26, slot := 0, constantValue := 0 }, { name := "RESERVED", type := (.object "java/lang/String"), accessFlags := 26, slot := 1, constantValue := 0 }, { name := "HEX", type := (.array .char), accessFlags := 26, slot := 2, constantValue := 0 }, { name := "KEPT", type := (.array .boolean), accessFlags := 26, slot := 3, constantValue := 0 }]
  methods := #[k8m0, k8m1]
  instanceTypes := #[]
  staticTypes := #[(.object "java/lang/String"), (.object "java/lang/String"), (.array .char), (.array .boolean)]
  resolved := Array.replicate 174 none
  statics := none }

def pool9 : Array CpInfo := pool [(1, .class_ 2), (0, u "java/lang/String"), (1, .class_ 6), (1, u "java/lang/Object"), (0, u "<init>"), (0, u "()V"), (0, .methodref 1 10), (0, .nameAndType 11 12), (0, u "checkIndex"), (0, u "(II)V"), (1, .class_ 16), (1, u "java/lang/StringLatin1"), (36, u "([BI)C"), (67, u "$assertionsDisabled"), (0, u "Z"), (98, .class_ 223), (1, u "java/lang/StringLatin1$LinesSpliterator"), (28, u "charAt"), (137, .class_ 391), (0, u "java/lang/StringLatin1$CharsSpliterator")] 3

def k9m0 : Method := { name := "<init>", desc := "()V", sig := { parameters := [], returnType := none }, accessFlags := 0, code := none }
def k9c1 : Code := { maxStack := 2, maxLocals := 2, code := jdk_43_method_2_code, exceptionTable := #[], attributes := #[] }
def k9m1 : Method := { name := "charAt", desc := "([BI)C", sig := { parameters := [(.array .byte), .int], returnType := some .char }, accessFlags := 9, code := some k9c1 }
/-- java/lang/StringLatin1 -/
def k9 : Class := { plain "java/lang/StringLatin1" (some 0) with
  accessFlags := 48
  interfaces := #[]
  cf := some (fileOf pool9 14 #[.nestMembers #[390, 221]] #[{ accessFlags := 0, nameIndex := 7, descriptorIndex := 8, attributes := #[] }, { accessFlags := 9, nameIndex := 252, descriptorIndex := 53, attributes := #[] }] 48 4 #[] #[{ accessFlags := 4120, nameIndex := 121, descriptorIndex := 122, attributes := #[] }])
  fields := #[{ name := "$assertionsDisabled", type := .boolean, accessFlags := 4120, slot := 0, constantValue := 0 }]
  methods := #[k9m0, k9m1]
  instanceTypes := #[]
  staticTypes := #[.boolean]
  resolved := Array.replicate 395 none
  statics := none }

def pool10 : Array CpInfo := pool [(2, .class_ 4), (1, u "java/lang/Object"), (0, u "<init>"), (0, u "()V"), (17, .class_ 26), (1, u "jdk/internal/util/Preconditions"), (6, u "checkIndex"), (21, .class_ 56), (0, u "jdk/internal/util/Preconditions$4"), (57, .class_ 115), (0, u "jdk/internal/util/Preconditions$1"), (7, u "SIOOBE_FORMATTER"), (0, u "Ljava/util/function/BiFunction;"), (0, .class_ 126), (0, u "jdk/internal/util/Preconditions$2"), (3, u "AIOOBE_FORMATTER"), (0, .class_ 132), (0, u "jdk/internal/util/Preconditions$3"), (3, u "IOOBE_FORMATTER"), (41, u "(IILjava/util/function/BiFunction;)I")] 15

def k10m0 : Method := { name := "<init>", desc := "()V", sig := { parameters := [], returnType := none }, accessFlags := 1, code := none }
def k10c1 : Code := { maxStack := 3, maxLocals := 3, code := jdk_41_method_11_code, exceptionTable := #[], attributes := #[] }
def k10m1 : Method := { name := "checkIndex", desc := "(IILjava/util/function/BiFunction;)I", sig := { parameters := [.int, .int, (.object "java/util/function/BiFunction")], returnType := some .int }, accessFlags := 9, code := some k10c1 }
/-- jdk/internal/util/Preconditions -/
def k10 : Class := { plain "jdk/internal/util/Preconditions" (some 0) with
  accessFlags := 33
  interfaces := #[]
  cf := some (fileOf pool10 24 #[.nestMembers #[55, 131, 125, 114]] #[{ accessFlags := 1, nameIndex := 5, descriptorIndex := 6, attributes := #[] }, { accessFlags := 9, nameIndex := 33, descriptorIndex := 178, attributes := #[] }] 33 2 #[] #[{ accessFlags := 25, nameIndex := 123, descriptorIndex := 124, attributes := #[] }, { accessFlags := 25, nameIndex := 130, descriptorIndex := 124, attributes := #[] }, { accessFlags := 25, nameIndex := 136, descriptorIndex := 124, attributes := #[] }])
  fields := #[{ name := "SIOOBE_FORMATTER", type := (.object "java/util/function/BiFunction"), accessFlags := 25, slot := 0, constantValue := 0 }, { name := "AIOOBE_FORMATTER", type := (.object "java/util/function/BiFunction"), accessFlags := 25, slot := 1, constantValue := 0 }, { name := "IOOBE_FORMATTER", type := (.object "java/util/function/BiFunction"), accessFlags := 25, slot := 2, constantValue := 0 }]
  methods := #[k10m0, k10m1]
  instanceTypes := #[]
  staticTypes := #[(.object "java/util/function/BiFunction"), (.object "java/util/function/BiFunction"), (.object "java/util/function/BiFunction")]
  resolved := Array.replicate 194 none
  statics := some 1 }

def pool11 : Array CpInfo := pool [(9, u "<init>"), (6, .class_ 18), (1, u "java/lang/Object"), (0, u "()V"), (1, .class_ 23), (1, u "jdk/internal/util/ArraysSupport"), (0, u "LOG2_ARRAY_LONG_INDEX_SCALE"), (0, u "I"), (2, u "U"), (0, u "Ljdk/internal/misc/Unsafe;"), (8, u "BIG_ENDIAN"), (0, u "Z"), (8, u "LOG2_BYTE_BIT_SIZE"), (4, u "LOG2_ARRAY_INT_INDEX_SCALE"), (54, u "JLA"), (0, u "Ljdk/internal/access/JavaLangAccess;"), (11, u "LOG2_ARRAY_BOOLEAN_INDEX_SCALE"), (9, u "LOG2_ARRAY_BYTE_INDEX_SCALE"), (5, u "LOG2_ARRAY_CHAR_INDEX_SCALE"), (5, u "LOG2_ARRAY_SHORT_INDEX_SCALE"), (18, u "LOG2_ARRAY_FLOAT_INDEX_SCALE"), (24, u "LOG2_ARRAY_DOUBLE_INDEX_SCALE"), (89, u "T_BOOLEAN"), (2, u "T_CHAR"), (1, u "T_FLOAT"), (1, u "T_DOUBLE"), (1, u "T_BYTE"), (1, u "T_SHORT"), (1, u "T_INT"), (1, u "T_LONG"), (1, u "SOFT_MAX_ARRAY_LENGTH")] 83

def k11m0 : Method := { name := "<init>", desc := "()V", sig := { parameters := [], returnType := none }, accessFlags := 2, code := none }
/-- jdk/internal/util/ArraysSupport -/
def k11 : Class := { plain "jdk/internal/util/ArraysSupport" (some 0) with
  accessFlags := 33
  interfaces := #[]
  cf := some (fileOf pool11 21 #[] #[{ accessFlags := 2, nameIndex := 9, descriptorIndex := 19, attributes := #[] }] 33 16 #[] #[{ accessFlags := 24, nameIndex := 28, descriptorIndex := 29, attributes := #[] }, { accessFlags := 26, nameIndex := 38, descriptorIndex := 39, attributes := #[] }, { accessFlags := 25, nameIndex := 121, descriptorIndex := 25, attributes := #[] }, { accessFlags := 25, nameIndex := 131, descriptorIndex := 25, attributes := #[] }, { accessFlags := 25, nameIndex := 137, descriptorIndex := 25, attributes := #[] }, { accessFlags := 25, nameIndex := 143, descriptorIndex := 25, attributes := #[] }, { accessFlags := 25, nameIndex := 53, descriptorIndex := 25, attributes := #[] }, { accessFlags := 25, nameIndex := 24, descriptorIndex := 25, attributes := #[] }, { accessFlags := 25, nameIndex := 162, descriptorIndex := 25, attributes := #[] }, { accessFlags := 25, nameIndex := 187, descriptorIndex := 25, attributes := #[] }, { accessFlags := 26, nameIndex := 48, descriptorIndex := 25, attributes := #[] }, { accessFlags := 25, nameIndex := 277, descriptorIndex := 25, attributes := #[] }, { accessFlags := 25, nameIndex := 280, descriptorIndex := 25, attributes := #[] }, { accessFlags := 25, nameIndex := 282, descriptorIndex := 25, attributes := #[] }, { accessFlags := 25, nameIndex := 284, descriptorIndex := 25, attributes := #[] }, { accessFlags := 25, nameIndex := 286, descriptorIndex := 25, attributes := #[] }, { accessFlags := 25, nameIndex := 288, descriptorIndex := 25, attributes := #[] }, { accessFlags := 25, nameIndex := 290, descriptorIndex := 25, attributes := #[] }, { accessFlags := 25, nameIndex := 292, descriptorIndex := 25, attributes := #[] }, { accessFlags := 26, nameIndex := 108, descriptorIndex := 109, attributes := #[] }, { accessFlags := 25, nameIndex := 294, descriptorIndex := 25, attributes := #[] }])
  fields := #[{ name := "U", type := (.object "jdk/internal/misc/Unsafe"), accessFlags := 24, slot := 0, constantValue := 0 }, { name := "BIG_ENDIAN", type := .boolean, accessFlags := 26, slot := 1, constantValue := 0 }, { name := "LOG2_ARRAY_BOOLEAN_INDEX_SCALE", type := .int, accessFlags := 25, slot := 2, constantValue := 0 }, { name := "LOG2_ARRAY_BYTE_INDEX_SCALE", type := .int, accessFlags := 25, slot := 3, constantValue := 0 }, { name := "LOG2_ARRAY_CHAR_INDEX_SCALE", type := .int, accessFlags := 25, slot := 4, constantValue := 0 }, { name := "LOG2_ARRAY_SHORT_INDEX_SCALE", type := .int, accessFlags := 25, slot := 5, constantValue := 0 }, { name := "LOG2_ARRAY_INT_INDEX_SCALE", type := .int, accessFlags := 25, slot := 6, constantValue := 0 }, { name := "LOG2_ARRAY_LONG_INDEX_SCALE", type := .int, accessFlags := 25, slot := 7, constantValue := 0 }, { name := "LOG2_ARRAY_FLOAT_INDEX_SCALE", type := .int, accessFlags := 25, slot := 8, constantValue := 0 }, { name := "LOG2_ARRAY_DOUBLE_INDEX_SCALE", type := .int, accessFlags := 25, slot := 9, constantValue := 0 }, { name := "LOG2_BYTE_BIT_SIZE", type := .int, accessFlags := 26, slot := 10, constantValue := 0 }, { name := "T_BOOLEAN", type := .int, accessFlags := 25, slot := 11, constantValue := 0 }, { name := "T_CHAR", type := .int, accessFlags := 25, slot := 12, constantValue := 0 }, { name := "T_FLOAT", type := .int, accessFlags := 25, slot := 13, constantValue := 0 }, { name := "T_DOUBLE", type := .int, accessFlags := 25, slot := 14, constantValue := 0 }, { name := "T_BYTE", type := .int, accessFlags := 25, slot := 15, constantValue := 0 }, { name := "T_SHORT", type := .int, accessFlags := 25, slot := 16, constantValue := 0 }, { name := "T_INT", type := .int, accessFlags := 25, slot := 17, constantValue := 0 }, { name := "T_LONG", type := .int, accessFlags := 25, slot := 18, constantValue := 0 }, { name := "JLA", type := (.object "jdk/internal/access/JavaLangAccess"), accessFlags := 26, slot := 19, constantValue := 0 }, { name := "SOFT_MAX_ARRAY_LENGTH", type := .int, accessFlags := 25, slot := 20, constantValue := 0 }]
  methods := #[k11m0]
  instanceTypes := #[]
  staticTypes := #[(.object "jdk/internal/misc/Unsafe"), .boolean, .int, .int, .int, .int, .int, .int, .int, .int, .int, .int, .int, .int, .int, .int, .int, .int, .int, (.object "jdk/internal/access/JavaLangAccess"), .int]
  resolved := Array.replicate 378 none
  statics := none }

def pool12 : Array CpInfo := pool [(1, u "java/lang/Cloneable"), (0, .class_ 1), (0, u "java/lang/Object"), (0, .class_ 3)] 3

/-- java/lang/Cloneable -/
def k12 : Class := { plain "java/lang/Cloneable" (some 0) with
  accessFlags := 1537
  interfaces := #[]
  cf := some (fileOf pool12 2 #[] #[] 1537 4 #[] #[])
  fields := #[]
  methods := #[]
  instanceTypes := #[]
  staticTypes := #[]
  resolved := Array.replicate 8 none
  statics := none }

/-- the primitive byte -/
def k13 : Class := { plain "byte" none with kind := .primitive 'B', accessFlags := 0x411 }
/-- [B -/
def k14 : Class := { plain "[B" (some 0) with kind := .array 13 .byte, interfaces := #[12, 2], accessFlags := 1041 }

/-- the primitive int -/
def k15 : Class := { plain "int" none with kind := .primitive 'I', accessFlags := 0x411 }
/-- [I -/
def k16 : Class := { plain "[I" (some 0) with kind := .array 15 .int, interfaces := #[12, 2], accessFlags := 1041 }

def heap : Heap := #[{ cls := 7, slots := #[.long 0, .int 1, .null, .int 0, .null, .int 0, .int 0], vm := .statics 7 },
  { cls := 10, slots := #[.null, .null, .null], vm := .statics 10 }]
def classes : Array Class := #[k0, k1, k2, k3, k4, k5, k6, k7, k8, k9, k10, k11, k12, k13, k14, k15, k16]
def interned : List (Array UInt16 × Addr) := []
def slotsUsed : Nat := 10
def theMethod : MethodId := ⟨1, 1⟩
def args0 : Array Value := #[.int 53, .int 3]
def aboutOver (below : List Frame) : State where
  vm := { classes := classes, interned := interned.toArray }
  heap := heap
  slotsUsed := slotsUsed
  threads := #[{ frames := .invoking theMethod args0 :: below }]
def below0 : List Frame := [.native { method := ⟨0, 0⟩, args := #[] }]
def about1 : State := aboutOver below0
def p0 : Program := .bare "" "" ""
def e0 : Env := launch0.env 0 0 0
theorem w_frames : about1.frames = Frame.invoking theMethod args0 :: below0 := rfl
set_option maxRecDepth 65536 in
theorem w_args : argsFit about1.vm theMethod args0 = true := by decide +kernel
set_option maxRecDepth 65536 in
theorem w_heap : heapFits about1 = true := by decide +kernel
set_option maxRecDepth 65536 in
theorem w_runnable : about1.curStatus? = some .runnable := by decide +kernel
set_option maxRecDepth 65536 in
theorem w_alone : about1.alone = true := by decide +kernel
set_option maxRecDepth 65536 in
theorem w_named : about1.methodNamed? x = some theMethod := by decide +kernel
set_option maxRecDepth 65536 in
theorem w_hears : about1.hears theMethod below0 = true := by decide +kernel
set_option maxRecDepth 65536 in
theorem w_ripe : about1.ripe theMethod args0 below0 = true := by decide +kernel
theorem w_running : about1.status = .running := rfl
set_option maxRecDepth 65536 in
theorem w_room : about1.hasRoom e0.platform room_1 = true :=
  launch0.hasRoom_least _ room_1 (by decide +kernel) (by decide +kernel) (by decide +kernel) (by decide +kernel) (by decide +kernel) (by decide +kernel)
theorem allAtoms_all (ts : List Jvm.Cond) (a : Array Jvm.Value) (st : Jvm.State) : (allAtoms ts).before a st = ts.all (fun c => c.before a st) := by
  induction ts with
  | nil => rfl
  | cons c t ih =>
    show (Jvm.Cond.and c (allAtoms t)).before a st = _
    rw [Jvm.Cond.before_and, ih, List.all_cons]
def words1 : List Jvm.Cond := Jvm.Cond.code x code maxLocals ret :: tables_1
/-- a 'code' word, met by the world's own term for the bytes: nothing is compared byte by byte -/
theorem code_word {y : MethodName} {bytes : ByteArray} {mx : Nat} {rt : Option FieldType} {a : Array Value} {s : State} {m : MethodId} {meth : Method} {c : Code} (h1 : s.methodNamed? y = some m) (h2 : s.vm.method? m = some meth) (h3 : meth.code = some c) (h4 : c.code = bytes)
    (h5 : (c.maxLocals == mx && c.exceptionTable.isEmpty && decide (c.maxStack ≤ mostOperands) && decide (meth.sig.returnType = rt) && !meth.locks && decide (parseMethodDescriptor y.desc = some meth.sig)) = true) : (Jvm.Cond.code y bytes mx rt).before a s = true := by
  simp only [Bool.and_eq_true, beq_iff_eq, Bool.not_eq_true', decide_eq_true_eq] at h5
  obtain ⟨⟨⟨⟨⟨g1, g2⟩, g3⟩, g4⟩, g5⟩, g6⟩ := h5
  simp [Cond.before, Cond.holds, Cond.value, h1, h2, h3, h4, g1, g2, g3, g4, g5, g6]
def isCode : Jvm.Cond → Bool
  | .code _ _ _ _ => true
  | _ => false
theorem all_split {L : List Jvm.Cond} {P : Jvm.Cond → Bool} (h1 : L.all (fun c => isCode c || P c) = true) (h2 : ∀ c ∈ L.filter isCode, P c = true) : L.all P = true := by
  refine List.all_eq_true.mpr fun c hc => ?_
  have h := List.all_eq_true.mp h1 c hc
  rcases Bool.eq_false_or_eq_true (isCode c) with hi | hi
  · exact h2 c (List.mem_filter.mpr ⟨hc, hi⟩)
  · simpa [hi] using h
set_option maxRecDepth 65536 in
theorem w_c0 : (Jvm.Cond.code x code maxLocals ret).before args0 about1 = true := code_word (m := ⟨1, 1⟩) (meth := k1m1) (c := k1c1) (by decide +kernel) rfl rfl rfl (by decide +kernel)
set_option maxRecDepth 65536 in
theorem w_c1 : (Jvm.Cond.code ({ cls := "com/example/librobots/librobots/robots/UrlPaths", name := "hexDigit", desc := "(I)I" } : Jvm.MethodName) prog_45_method_7_code (2 : Nat) (Option.some Jvm.ClassFile.FieldType.int)).before args0 about1 = true := code_word (m := ⟨8, 1⟩) (meth := k8m1) (c := k8c1) (by decide +kernel) rfl rfl rfl (by decide +kernel)
set_option maxRecDepth 65536 in
theorem w_c2 : (Jvm.Cond.code ({ cls := "java/lang/String", name := "charAt", desc := "(I)C" } : Jvm.MethodName) jdk_42_method_56_code (2 : Nat) (Option.some Jvm.ClassFile.FieldType.char)).before args0 about1 = true := code_word (m := ⟨7, 1⟩) (meth := k7m1) (c := k7c1) (by decide +kernel) rfl rfl rfl (by decide +kernel)
set_option maxRecDepth 65536 in
theorem w_c3 : (Jvm.Cond.code ({ cls := "java/lang/String", name := "isLatin1", desc := "()Z" } : Jvm.MethodName) jdk_42_method_154_code (1 : Nat) (Option.some Jvm.ClassFile.FieldType.boolean)).before args0 about1 = true := code_word (m := ⟨7, 2⟩) (meth := k7m2) (c := k7c2) (by decide +kernel) rfl rfl rfl (by decide +kernel)
set_option maxRecDepth 65536 in
theorem w_c4 : (Jvm.Cond.code ({ cls := "java/lang/StringLatin1", name := "charAt", desc := "([BI)C" } : Jvm.MethodName) jdk_43_method_2_code (2 : Nat) (Option.some Jvm.ClassFile.FieldType.char)).before args0 about1 = true := code_word (m := ⟨9, 1⟩) (meth := k9m1) (c := k9c1) (by decide +kernel) rfl rfl rfl (by decide +kernel)
set_option maxRecDepth 65536 in
theorem w_c5 : (Jvm.Cond.code ({ cls := "java/lang/String", name := "checkIndex", desc := "(II)V" } : Jvm.MethodName) jdk_42_method_155_code (2 : Nat) (Option.none : Option Jvm.ClassFile.FieldType)).before args0 about1 = true := code_word (m := ⟨7, 3⟩) (meth := k7m3) (c := k7c3) (by decide +kernel) rfl rfl rfl (by decide +kernel)
set_option maxRecDepth 65536 in
theorem w_c6 : (Jvm.Cond.code ({ cls := "jdk/internal/util/Preconditions", name := "checkIndex", desc := "(IILjava/util/function/BiFunction;)I" } : Jvm.MethodName) jdk_41_method_11_code (3 : Nat) (Option.some Jvm.ClassFile.FieldType.int)).before args0 about1 = true := code_word (m := ⟨10, 1⟩) (meth := k10m1) (c := k10c1) (by decide +kernel) rfl rfl rfl (by decide +kernel)
def codes1 : List Jvm.Cond := [Jvm.Cond.code x code maxLocals ret, Jvm.Cond.code ({ cls := "com/example/librobots/librobots/robots/UrlPaths", name := "hexDigit", desc := "(I)I" } : Jvm.MethodName) prog_45_method_7_code (2 : Nat) (Option.some Jvm.ClassFile.FieldType.int), Jvm.Cond.code ({ cls := "java/lang/String", name := "charAt", desc := "(I)C" } : Jvm.MethodName) jdk_42_method_56_code (2 : Nat) (Option.some Jvm.ClassFile.FieldType.char), Jvm.Cond.code ({ cls := "java/lang/String", name := "isLatin1", desc := "()Z" } : Jvm.MethodName) jdk_42_method_154_code (1 : Nat) (Option.some Jvm.ClassFile.FieldType.boolean), Jvm.Cond.code ({ cls := "java/lang/StringLatin1", name := "charAt", desc := "([BI)C" } : Jvm.MethodName) jdk_43_method_2_code (2 : Nat) (Option.some Jvm.ClassFile.FieldType.char), Jvm.Cond.code ({ cls := "java/lang/String", name := "checkIndex", desc := "(II)V" } : Jvm.MethodName) jdk_42_method_155_code (2 : Nat) (Option.none : Option Jvm.ClassFile.FieldType), Jvm.Cond.code ({ cls := "jdk/internal/util/Preconditions", name := "checkIndex", desc := "(IILjava/util/function/BiFunction;)I" } : Jvm.MethodName) jdk_41_method_11_code (3 : Nat) (Option.some Jvm.ClassFile.FieldType.int)]
set_option maxRecDepth 65536 in
theorem codes_eq : words1.filter isCode = codes1 := rfl
theorem w_codes : ∀ c ∈ words1.filter isCode, c.before args0 about1 = true := by
  rw [codes_eq]
  intro c hc
  simp only [codes1, List.mem_cons, List.not_mem_nil, or_false] at hc
  rcases hc with rfl | rfl | rfl | rfl | rfl | rfl | rfl
  · exact w_c0
  · exact w_c1
  · exact w_c2
  · exact w_c3
  · exact w_c4
  · exact w_c5
  · exact w_c6
set_option maxRecDepth 65536 in
theorem w_t1 : (words1.take 24).all (fun c => isCode c || c.before args0 about1) = true := by decide +kernel
set_option maxRecDepth 65536 in
theorem w_t2 : (words1.drop 24).all (fun c => isCode c || c.before args0 about1) = true := by decide +kernel
theorem w_tables : (allAtoms (Jvm.Cond.code x code maxLocals ret :: tables_1)).before args0 about1 = true := by
  rw [allAtoms_all]
  show words1.all (fun c => c.before args0 about1) = true
  refine all_split ?_ w_codes
  rw [← List.take_append_drop 24 words1, List.all_append, w_t1, w_t2]
  rfl
set_option maxRecDepth 65536 in
theorem w_rest : rest_1_c.before args0 about1 = true := by decide +kernel
set_option maxRecDepth 65536 in
theorem w_case : (Jvm.Cond.and given_1 narrow_1).before args0 about1 = true := by decide +kernel
set_option maxRecDepth 65536 in
theorem w_consts : constsHeld consts_1 about1 := Jvm.Lit.constsHeldB_iff.mp (by decide +kernel)
theorem w_applies : (headSpec (Jvm.Cond.code x code maxLocals ret :: tables_1) room_1).applies x e0.platform about1 = true :=
  (Spec.applies_iff w_frames).mpr ⟨w_running, w_runnable, w_alone, w_named, w_hears, w_ripe, w_room, w_tables⟩
theorem atStart : AtStart classFile x code maxLocals ret World_1 tables_1 room_1 Calls_1 rest_1 Pre_1 launch0 p0 e0 about1 theMethod args0 below0 :=
  ⟨lists_1, trivial, launch0.admits_env _ _ _, launch0.least_env, fairChoices_fair.cas, fairChoices_fair.clock, w_frames, w_args, w_heap, w_applies, ⟨w_consts, trivial⟩, w_rest, w_case⟩
end start1
theorem witness_1 : WitnessClaimed_1 := ⟨start1.p0, start1.e0, start1.about1, start1.theMethod, start1.args0, start1.below0, start1.atStart⟩
end Jvm.Pilot.@@N@@
