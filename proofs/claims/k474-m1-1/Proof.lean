import JvmDerived
import JvmDerived.Pilot.@@N@@Statement
import JvmDerived.Pilot.@@N@@Code
set_option linter.unusedVariables false
set_option linter.unusedSimpArgs false
@@BLOCK:NumsL.lean.txt@@
namespace Jvm.RoadKit
open Sem ClassFile Op Lib Jvm.Stand Jvm.Free Jvm.LawKit
section New
variable {p : Program} {l : Launch} {e : Env} {R : Room} {s : State} {m : MethodId} {args : Array Value} {below : List Frame} {meth : Method} {c : Code} {T : State} {locs : List Loc} {cells slots : Nat}
theorem retI (X : Stand p l e R s m args below meth c T locs cells slots) (hx : p.tables.exec = Jvm.exec) {pc : Nat} {Ls : Array Slot} {z : Int32} {rest : List Value} (hret : meth.sig.returnType = some .int) (hd : decode c.code pc = .ok (.ireturn, 1)) {fs : List Frame}
    (hl : ∀ (f : JFrame) (acts : List Action), f.method = m → f.locked = none → f.entered = [] → (doReturn e (T.setTop f) acts (some (.int z))).1 = T.setFrames fs) : Steps p.tables e below (T.setTop (mkF m pc Ls (.int z :: rest))) (T.setFrames fs) := by
  have hm' : T.vm.method? m = some meth := X.method'
  have hn : narrow .int (.int z) = .int z := rfl
  show Steps p.tables e below (T.setTop { method := m, pc := pc, locals := Ls, stack := _ :: rest, locked := none }) _
  jvm_step X.here [X.here.top, hx, hd, hm', hret, hn]
  first | (intro acts; rw [hl _ acts rfl rfl rfl]) | rw [hl _ _ rfl rfl rfl]
  exact Steps.refl _
/-- the run from A comes to a return of which F says the value, the heap and the written places -/
def own_Goes (p : Program) (e : Env) (below : List Frame) (s : State) (F : Option Value → Heap → List Loc → Prop) (k n : Nat) (A : State) : Prop :=
  ∃ s₂ o, Steps p.tables e below A s₂ ∧ s₂.status = .running ∧ Ended s₂ below o ∧ ∃ v L, o = .returned v ∧ F v s₂.heap L ∧ FrameEnd s o s₂ L k n
variable {F : Option Value → Heap → List Loc → Prop} {k n : Nat}
theorem own_Goes.step {A B : State} (h : ∀ t, Steps p.tables e below B t → Steps p.tables e below A t) (g : own_Goes p e below s F k n B) : own_Goes p e below s F k n A := by
  obtain ⟨s₂, o, h1, h2⟩ := g
  exact ⟨s₂, o, h _ h1, h2⟩
theorem own_endI (X : Stand p l e R s m args below meth c T locs cells slots) (hx : p.tables.exec = Jvm.exec) (hlk : meth.locks = false) {pc : Nat} {Ls : Array Slot} {z : Int32} {rest : List Value} (hret : meth.sig.returnType = some .int) (hd : decode c.code pc = .ok (.ireturn, 1)) (hF : F (some (.int z)) T.heap locs) (hk : cells ≤ k) (hn : slots ≤ n) :
    own_Goes p e below s F k n (T.setTop (mkF m pc Ls (.int z :: rest))) := by
  obtain ⟨fs, hr, hrun, hended, hW, hsame⟩ := X.leave (v := some (.int z)) (fun h => by rw [hret] at h; cases h) hlk
  exact ⟨_, _, retI X hx hret hd hr, hrun, hended, _, _, rfl, hF, ⟨_, rfl⟩, hW, hsame.mono hk hn⟩
theorem own_endN (X : Stand p l e R s m args below meth c T locs cells slots) (hx : p.tables.exec = Jvm.exec) (hlk : meth.locks = false) {pc : Nat} {Ls : Array Slot} {z : Int32} {t : FieldType} {rest : List Value} (hret : meth.sig.returnType = some t) (ht : t = .boolean ∨ t = .byte ∨ t = .char ∨ t = .short) (hd : decode c.code pc = .ok (.ireturn, 1)) (hF : F (some (.int (nar t z))) T.heap locs) (hk : cells ≤ k) (hn : slots ≤ n) :
    own_Goes p e below s F k n (T.setTop (mkF m pc Ls (.int z :: rest))) := by
  obtain ⟨fs, hr, hrun, hended, hW, hsame⟩ := X.leave (v := some (.int (nar t z))) (fun h => by rw [hret] at h; cases h) hlk
  exact ⟨_, _, retN X hx hret ht hd hr, hrun, hended, _, _, rfl, hF, ⟨_, rfl⟩, hW, hsame.mono hk hn⟩
theorem own_endJ (X : Stand p l e R s m args below meth c T locs cells slots) (hx : p.tables.exec = Jvm.exec) (hlk : meth.locks = false) {pc : Nat} {Ls : Array Slot} {z : Int64} (hret : meth.sig.returnType = some .long) (hd : decode c.code pc = .ok (.lreturn, 1)) (hF : F (some (.long z)) T.heap locs) (hk : cells ≤ k) (hn : slots ≤ n) :
    own_Goes p e below s F k n (T.setTop (mkF m pc Ls [.long z])) := by
  obtain ⟨fs, hr, hrun, hended, hW, hsame⟩ := X.leave (v := some (.long z)) (fun h => by rw [hret] at h; cases h) hlk
  exact ⟨_, _, X.lreturnOut hx hret hd hr, hrun, hended, _, _, rfl, hF, ⟨_, rfl⟩, hW, hsame.mono hk hn⟩
theorem own_endV (X : Stand p l e R s m args below meth c T locs cells slots) (hx : p.tables.exec = Jvm.exec) (hlk : meth.locks = false) {pc : Nat} {Ls : Array Slot} (hret : meth.sig.returnType = none) (hd : decode c.code pc = .ok (.return_, 1)) (hF : F none T.heap locs) (hk : cells ≤ k) (hn : slots ≤ n) :
    own_Goes p e below s F k n (T.setTop (mkF m pc Ls [])) := by
  obtain ⟨fs, hr, hrun, hended, hW, hsame⟩ := X.leave (v := none) (fun _ => rfl) hlk
  exact ⟨_, _, X.returnOut hx hret hd hr, hrun, hended, _, _, rfl, hF, ⟨_, rfl⟩, hW, hsame.mono hk hn⟩
theorem own_endA (X : Stand p l e R s m args below meth c T locs cells slots) (hx : p.tables.exec = Jvm.exec) (hlk : meth.locks = false) {pc : Nat} {Ls : Array Slot} {w : Value} {t : FieldType} (hw : w.isRef = true) (hret : meth.sig.returnType = some t) (ht : t.isReference = true) (hd : decode c.code pc = .ok (.areturn, 1)) (hF : F (some w) T.heap locs) (hk : cells ≤ k) (hn : slots ≤ n) :
    own_Goes p e below s F k n (T.setTop (mkF m pc Ls [w])) := by
  obtain ⟨fs, hr, hrun, hended, hW, hsame⟩ := X.leave (v := some w) (fun h => by rw [hret] at h; cases h) hlk
  exact ⟨_, _, X.areturnOut hx hw hret ht hd hr, hrun, hended, _, _, rfl, hF, ⟨_, rfl⟩, hW, hsame.mono hk hn⟩
theorem own_lrem (x y : Int64) : x - x / y * y = x % y := by
  refine Int64.toInt_inj.mp ?_
  rw [Jvm.Kit.i64_rem, Int64.toInt_mod]
theorem own_lremM {g : JFrame} {target : State} (X : Stand p l e R s m args below meth c T locs cells slots) (hx : p.tables.exec = Jvm.exec) (hg : g.method = m) {x y : Int64} {rest : List Value} (hd : decode c.code g.pc = .ok (.lrem, 1)) (hs : g.stack = .long y :: .long x :: rest) (hy : y ≠ 0)
    (hr : Steps p.tables e below (T.setTop { g with pc := g.pc + 1, stack := .long (x % y) :: rest }) target) : Steps p.tables e below (T.setTop g) target :=
  XT.lrem X.here hx hg hd hs hy (by rw [own_lrem]; exact hr)
/-- the three calls, by a contract in this family, carried forward -/
theorem own_stat {Z : State} {a0 : Array Value} {h : Heap} (X : Stand p l e R s m args below meth c T locs cells slots) (hx : p.tables.exec = Jvm.exec) (hZ : Z.Warmed39 s.vm) (eT : T.heap = h) {own : String} {index : Nat} {y : MethodName} {bytes : ByteArray} {maxL : Nat} {ret : Option FieldType} {rm : Room} {W : Nat} {argsL rest : List Value} {Q : Option Value → Heap → List Loc → Prop}
    (hown : s.vm.findClass own = some m.cls) (wl : (Cond.methodLink own index y).before a0 Z = true) (wst : (Cond.static y).before a0 Z = true) (wi : (Cond.initialized y.cls).before a0 Z = true) (wc : (Cond.code y bytes maxL ret).before a0 Z = true) (hy : y.cls ≠ "java/lang/invoke/MethodHandle" ∧ y.cls ≠ "java/lang/invoke/VarHandle")
    (hM : MetFree l y (head1 [Cond.code y bytes maxL ret] rm) (fun a U => a = argsL.toArray ∧ Z.Warmed39 U.vm ∧ U.heap = h) (fun _ _ _ _ _ => True) (fun _ U o U' => ∃ w L, o = .returned w ∧ Q w U'.heap L ∧ FrameEnd U o U' L rm.cells rm.slots))
    (hf : rm.frames + 1 ≤ R.frames) (hl : W + (maxL + 11) + rm.locals ≤ R.locals) (hcells : cells + rm.cells ≤ R.cells) (hslots : slots + rm.slots ≤ R.slots)
    {g : JFrame} (hg : g.method = m) (hsize : g.locals.size = c.maxLocals) (hlen : ∀ sig, parseMethodDescriptor y.desc = some sig → argsL.length = sig.parameters.length) (hstack : g.stack = argsL.reverse ++ rest) (hW : 2 * g.monitorRoom + (rest.map fun v => v.category).sum ≤ W) (hdg : decode c.code g.pc = .ok (.invokestatic index, 3)) :
    ∃ w T' L, Q w T'.heap L ∧ Stand p l e R s m args below meth c T' (locs ++ L) (cells + rm.cells) (slots + rm.slots) ∧ ∀ t, Steps p.tables e below (T'.setTop { g with pc := g.pc + 3, stack := w.toList ++ rest }) t → Steps p.tables e below (T.setTop g) t := by
  have hB := backOf (R := R) (p := p) (e := e) (below := below) (args := args) (len := 3) (W := W) (Q := Q) hM hZ wc wi hf hl
  obtain ⟨w, vm₁, ⟨U, Lc, k1, n1⟩, -, X', ⟨L, hQ, hL, hC, hS⟩, st⟩ := Jvm.LawKit.callS X hx (y := y) hown (mvT hZ wl) (mvT hZ wst) (mvT hZ wi) (mvT hZ wc) hy hB (g := g) hg hsize hlen hstack hW hdg (fun _ _ => ⟨rfl, eT, hcells, hslots⟩)
  dsimp only [Pt.U, Pt.locs, Pt.cells, Pt.slots] at X' hQ hL hC hS st
  subst hL hC hS
  exact ⟨w, U, L, hQ, X', st⟩
theorem own_spec {Z : State} {a0 : Array Value} {h : Heap} (X : Stand p l e R s m args below meth c T locs cells slots) (hx : p.tables.exec = Jvm.exec) (hZ : Z.Warmed39 s.vm) (eT : T.heap = h) {own : String} {index : Nat} {y : MethodName} {bytes : ByteArray} {maxL : Nat} {rm : Room} {W : Nat} {a : Addr} {argsL rest : List Value} {Q : Option Value → Heap → List Loc → Prop}
    (hy1 : y.name = "<init>") (hown : s.vm.findClass own = some m.cls) (wl : (Cond.methodLink own index y).before a0 Z = true) (wst : (Cond.instanceMethod y).before a0 Z = true) (wi : (Cond.initialized y.cls).before a0 Z = true) (wc : (Cond.code y bytes maxL none).before a0 Z = true) (hy : y.cls ≠ "java/lang/invoke/MethodHandle" ∧ y.cls ≠ "java/lang/invoke/VarHandle")
    (hM : MetFree l y (head1 [Cond.code y bytes maxL none] rm) (fun b U => b = (.ref a :: argsL).toArray ∧ Z.Warmed39 U.vm ∧ U.heap = h) (fun _ _ _ _ _ => True) (fun _ U o U' => ∃ w L, o = .returned w ∧ Q w U'.heap L ∧ FrameEnd U o U' L rm.cells rm.slots))
    (hf : rm.frames + 1 ≤ R.frames) (hl : W + (maxL + 11) + rm.locals ≤ R.locals) (hcells : cells + rm.cells ≤ R.cells) (hslots : slots + rm.slots ≤ R.slots)
    {g : JFrame} (hg : g.method = m) (hsize : g.locals.size = c.maxLocals) (hlen : ∀ sig, parseMethodDescriptor y.desc = some sig → argsL.length = sig.parameters.length) (hstack : g.stack = argsL.reverse ++ .ref a :: rest) (hW : 2 * g.monitorRoom + (rest.map fun v => v.category).sum ≤ W) (hdg : decode c.code g.pc = .ok (.invokespecial index, 3)) :
    ∃ w T' L, Q w T'.heap L ∧ Stand p l e R s m args below meth c T' (locs ++ L) (cells + rm.cells) (slots + rm.slots) ∧ ∀ t, Steps p.tables e below (T'.setTop { g with pc := g.pc + 3, stack := w.toList ++ rest }) t → Steps p.tables e below (T.setTop g) t := by
  have hB := backOf (R := R) (p := p) (e := e) (below := below) (args := args) (len := 3) (W := W) (Q := Q) hM hZ wc wi hf hl
  obtain ⟨w, vm₁, ⟨U, Lc, k1, n1⟩, -, X', ⟨L, hQ, hL, hC, hS⟩, st⟩ := X.specialBack hx (y := y) hy1 hown (mvT hZ wl) (mvT hZ wst) (mvT hZ wc) hy hB (g := g) hg hsize (Steps.refl _) (a := a) hlen hstack hW hdg (fun _ _ => ⟨rfl, eT, hcells, hslots⟩)
  dsimp only [Pt.U, Pt.locs, Pt.cells, Pt.slots] at X' hQ hL hC hS st
  subst hL hC hS
  exact ⟨w, U, L, hQ, X', fun t k => st.trans k⟩
theorem own_virt {Z : State} {a0 : Array Value} {h : Heap} (X : Stand p l e R s m args below meth c T locs cells slots) (hx : p.tables.exec = Jvm.exec) (hZ : Z.Warmed39 s.vm) (eT : T.heap = h) {own C : String} {index : Nat} {y : MethodName} {bytes : ByteArray} {maxL : Nat} {ret : Option FieldType} {rm : Room} {W : Nat} {a : Addr} {argsL rest : List Value} {Q : Option Value → Heap → List Loc → Prop}
    (E : Exa Z h a C) (hown : s.vm.findClass own = some m.cls) (wl : (Cond.methodLink own index y).before a0 Z = true) (wd : (Cond.declares y).before a0 Z = true) (ws : (Cond.selects C y y).before a0 Z = true) (wst : (Cond.instanceMethod y).before a0 Z = true) (wi : (Cond.initialized y.cls).before a0 Z = true) (wc : (Cond.code y bytes maxL ret).before a0 Z = true) (hy : y.cls ≠ "java/lang/invoke/MethodHandle" ∧ y.cls ≠ "java/lang/invoke/VarHandle")
    (hM : MetFree l y (head1 [Cond.code y bytes maxL ret] rm) (fun b U => b = (.ref a :: argsL).toArray ∧ Z.Warmed39 U.vm ∧ U.heap = h) (fun _ _ _ _ _ => True) (fun _ U o U' => ∃ w L, o = .returned w ∧ Q w U'.heap L ∧ FrameEnd U o U' L rm.cells rm.slots))
    (hf : rm.frames + 1 ≤ R.frames) (hl : W + (maxL + 11) + rm.locals ≤ R.locals) (hcells : cells + rm.cells ≤ R.cells) (hslots : slots + rm.slots ≤ R.slots)
    {g : JFrame} (hg : g.method = m) (hsize : g.locals.size = c.maxLocals) (hlen : ∀ sig, parseMethodDescriptor y.desc = some sig → argsL.length = sig.parameters.length) (hstack : g.stack = argsL.reverse ++ .ref a :: rest) (hW : 2 * g.monitorRoom + (rest.map fun v => v.category).sum ≤ W) (hdg : decode c.code g.pc = .ok (.invokevirtual index, 3)) :
    ∃ w T' L, Q w T'.heap L ∧ Stand p l e R s m args below meth c T' (locs ++ L) (cells + rm.cells) (slots + rm.slots) ∧ ∀ t, Steps p.tables e below (T'.setTop { g with pc := g.pc + 3, stack := w.toList ++ rest }) t → Steps p.tables e below (T.setTop g) t := by
  have hB := backOf (R := R) (p := p) (e := e) (below := below) (args := args) (len := 3) (W := W) (Q := Q) hM hZ wc wi hf hl
  obtain ⟨cq, kq, qa, qb, qc⟩ := isOf hZ eT E
  obtain ⟨w, vm₁, ⟨U, Lc, k1, n1⟩, -, X', ⟨L, hQ, hL, hC, hS⟩, st⟩ := X.virtualBack hx (y := y) (z := y) hown (mvT hZ wl) (mvT hZ wd) (notFace_of_selects (args := #[]) (mvT hZ ws)) (mvT hZ ws) (mvT hZ wst) hy hB qa qc (g := g) hg hsize (Steps.refl _) hlen hstack hW hdg (fun _ _ => ⟨rfl, eT, hcells, hslots⟩)
  dsimp only [Pt.U, Pt.locs, Pt.cells, Pt.slots] at X' hQ hL hC hS st
  subst hL hC hS
  exact ⟨w, U, L, hQ, X', fun t k => st.trans k⟩
/-- a private method, by invokevirtual -/
theorem own_priv {Z : State} {a0 : Array Value} {h : Heap} (X : Stand p l e R s m args below meth c T locs cells slots) (hx : p.tables.exec = Jvm.exec) (hZ : Z.Warmed39 s.vm) (eT : T.heap = h) {own C : String} {index kI : Nat} {y : MethodName} {bytes : ByteArray} {maxL : Nat} {ret : Option FieldType} {rm : Room} {W : Nat} {a : Addr} {argsL rest : List Value} {Q : Option Value → Heap → List Loc → Prop}
    (E : Exa Z h a C) (hown : s.vm.findClass own = some m.cls) (wl : (Cond.methodLink own index y).before a0 Z = true) (wp : (Cond.privateMethod y).before a0 Z = true) (wI : (Cond.instantiable y.cls kI).before a0 Z = true) (wst : (Cond.instanceMethod y).before a0 Z = true) (wi : (Cond.initialized y.cls).before a0 Z = true) (wc : (Cond.code y bytes maxL ret).before a0 Z = true) (hy : y.cls ≠ "java/lang/invoke/MethodHandle" ∧ y.cls ≠ "java/lang/invoke/VarHandle")
    (hM : MetFree l y (head1 [Cond.code y bytes maxL ret] rm) (fun b U => b = (.ref a :: argsL).toArray ∧ Z.Warmed39 U.vm ∧ U.heap = h) (fun _ _ _ _ _ => True) (fun _ U o U' => ∃ w L, o = .returned w ∧ Q w U'.heap L ∧ FrameEnd U o U' L rm.cells rm.slots))
    (hf : rm.frames + 1 ≤ R.frames) (hl : W + (maxL + 11) + rm.locals ≤ R.locals) (hcells : cells + rm.cells ≤ R.cells) (hslots : slots + rm.slots ≤ R.slots)
    {g : JFrame} (hg : g.method = m) (hsize : g.locals.size = c.maxLocals) (hlen : ∀ sig, parseMethodDescriptor y.desc = some sig → argsL.length = sig.parameters.length) (hstack : g.stack = argsL.reverse ++ .ref a :: rest) (hW : 2 * g.monitorRoom + (rest.map fun v => v.category).sum ≤ W) (hdg : decode c.code g.pc = .ok (.invokevirtual index, 3)) :
    ∃ w T' L, Q w T'.heap L ∧ Stand p l e R s m args below meth c T' (locs ++ L) (cells + rm.cells) (slots + rm.slots) ∧ ∀ t, Steps p.tables e below (T'.setTop { g with pc := g.pc + 3, stack := w.toList ++ rest }) t → Steps p.tables e below (T.setTop g) t := by
  have hB := backOf (R := R) (p := p) (e := e) (below := below) (args := args) (len := 3) (W := W) (Q := Q) hM hZ wc wi hf hl
  obtain ⟨cl, hcl, hob⟩ := E.cell
  obtain ⟨cI, kk, i1, i2, -, i4, -, -⟩ := Cond.instantiable_spec (mvT (args := args) hZ wI)
  have hni : kk.isInterface = false := by
    rcases Bool.eq_false_or_eq_true kk.isInterface with q | q
    · rw [q] at i4; cases i4
    · exact q
  have hpv := Cond.privateMethod_at (mvP (args := args) hZ wp)
  have hsel := selects_self_of_private (args := args) i1 i2 hni hpv (mvT hZ wst) hy
  obtain ⟨w, vm₁, ⟨U, Lc, k1, n1⟩, -, X', ⟨L, hQ, hL, hC, hS⟩, st⟩ := X.privateBack hx (y := y) hown (mvT hZ wl) (mvT hZ wst) hsel hpv (mvT hZ wc) hy hB (g := g) hg hsize (Steps.refl _) (a := a) (cell := cl) (by rw [eT]; exact hcl) hob hlen hstack hW hdg (fun _ _ => ⟨rfl, eT, hcells, hslots⟩)
  dsimp only [Pt.U, Pt.locs, Pt.cells, Pt.slots] at X' hQ hL hC hS st
  subst hL hC hS
  exact ⟨w, U, L, hQ, X', fun t k => st.trans k⟩
/-- a call that left nothing behind -/
theorem own_clean {h : Heap} {w v : Option Value} {T' : State} {L : List Loc} {k0 n0 : Nat} (q : w = v ∧ L = [] ∧ T'.heap = h) (X : Stand p l e R s m args below meth c T' (locs ++ L) (cells + k0) (slots + n0)) (hk : k0 = 0) (hn : n0 = 0) : T'.heap = h ∧ Stand p l e R s m args below meth c T' locs cells slots := by
  obtain ⟨-, rfl, hh⟩ := q
  subst hk hn
  rw [List.append_nil] at X
  exact ⟨hh, X⟩
theorem own_nin {a b : Addr} (q : b ≠ a) : b ∉ [a] := fun h => q (List.mem_singleton.mp h)
theorem own_kt {h0 : Heap} {ws : List Addr} {a : Addr} (q : a ∈ ws ∨ h0.size ≤ a) : ∀ x ∈ [a], x ∈ ws ∨ h0.size ≤ x := fun x hx => by
  cases List.mem_singleton.mp hx; exact q
end New
end Jvm.RoadKit
namespace Jvm.RoadKit
open Sem ClassFile Op Lib Jvm.Stand Jvm.Free Jvm.LawKit
section Arrays
variable {p : Program} {l : Launch} {e : Env} {R : Room} {s : State} {m : MethodId} {args : Array Value} {below : List Frame} {meth : Method} {c : Code} {T : State} {locs : List Loc} {cells slots : Nat} {Z : State} {a0 : Array Value} {h h' : Heap} {a b : Addr} {ty : FieldType} {n : Nat} {f : Nat → Value}
/-- an array of n places; place i holds f i -/
def own_Ar (Z : State) (h : Heap) (a : Addr) (ty : FieldType) (n : Nat) (f : Nat → Value) : Prop := ∃ c : Cell, Arr Z h a c ty ∧ c.slots.size = n ∧ ∀ i, i < n → c.slots[i]? = some (f i)
theorem own_Ar.lt (F : own_Ar Z h a ty n f) : a < h.size := by obtain ⟨c, A, -⟩ := F; exact A.lt
theorem own_Ar.ext (F : own_Ar Z h a ty n f) (E : Ext h h') : own_Ar Z h' a ty n f := by obtain ⟨c, A, r⟩ := F; exact ⟨c, A.ext E, r⟩
theorem own_Ar.keep {ws : List Addr} (F : own_Ar Z h a ty n f) (K : Keep h h' ws) (q : a ∉ ws) : own_Ar Z h' a ty n f := by obtain ⟨c, A, r⟩ := F; exact ⟨c, ⟨K.2.1 a c A.1 q, A.2⟩, r⟩
theorem own_Ar.other {sl : Nat} {v : Value} (F : own_Ar Z h b ty n f) (W : Wr h h' a sl v) (q : b ≠ a) : own_Ar Z h' b ty n f := by obtain ⟨c, A, r⟩ := F; exact ⟨c, A.other W q, r⟩
theorem own_Ar.set {i : Nat} {v : Value} (F : own_Ar Z h a ty n f) (W : Wr h h' a i v) : own_Ar Z h' a ty n (fun j => if j = i then v else f j) := by
  obtain ⟨c, A, S, H⟩ := F
  refine ⟨c.setSlot i v, A.same W, by rw [sz_set]; exact S, fun j hj => ?_⟩
  show (c.slots.setIfInBounds i v)[j]? = some (if j = i then v else f j)
  rw [Array.getElem?_setIfInBounds]
  by_cases q : i = j
  · subst q
    rw [if_pos rfl, if_pos rfl, if_pos (by rw [S]; exact hj)]
  · rw [if_neg q, if_neg (Ne.symm q)]
    exact H j hj
theorem own_Ar.new {k : ClassId} {z : Int32} (A : Arr Z h a (newA k ty z) ty) : own_Ar Z h a ty z.toNatClampNeg (fun _ => defaultValue ty) := ⟨_, A, sz_new _ _ _, fun i hi => by simp [newA, hi]⟩
theorem own_Ar.congr {f' : Nat → Value} (F : own_Ar Z h a ty n f) (q : ∀ i, i < n → f i = f' i) : own_Ar Z h a ty n f' := by
  obtain ⟨c, A, S, H⟩ := F
  exact ⟨c, A, S, fun i hi => by rw [← q i hi]; exact H i hi⟩
theorem own_idx {j : Int32} {i : Nat} (hj : j.toInt = i) : j.toNatClampNeg = i := by
  show j.toInt.toNat = i
  omega
theorem own_in {j : Int32} {i n : Nat} (hj : j.toInt = i) (hi : i < n) : ¬ (j < 0 ∨ n ≤ j.toNatClampNeg) := by
  rw [own_idx hj, Int32.lt_iff_toInt_lt, Int32.toInt_zero]
  omega
theorem own_alen (X : Stand p l e R s m args below meth c T locs cells slots) (hx : p.tables.exec = Jvm.exec) (hZ : Z.Warmed39 s.vm) (eT : T.heap = h) (F : own_Ar Z h a ty n f) {z : Int32} (hz : n.toInt32 = z)
    {g : JFrame} (hg : g.method = m) {rest : List Value} (hs : g.stack = .ref a :: rest) (hd : decode c.code g.pc = .ok (.arraylength, 1)) : ∀ t, Steps p.tables e below (T.setTop { g with pc := g.pc + 1, stack := .int z :: rest }) t → Steps p.tables e below (T.setTop g) t := by
  obtain ⟨cl, A, S, H⟩ := F
  subst hz
  intro t k
  refine X.arraylength hx (cell := cl) (by rw [eT]; exact A.1) (State.isArrayOf_alike hZ.alike A.2.1) hg hs hd t ?_
  rw [S]
  exact k
theorem own_iald (X : Stand p l e R s m args below meth c T locs cells slots) (hx : p.tables.exec = Jvm.exec) (hZ : Z.Warmed39 s.vm) (eT : T.heap = h) (F : own_Ar Z h a .int n f) {j : Int32} {i : Nat} {v : Value} (hj : j.toInt = i) (hi : i < n) (hv : f i = v)
    {g : JFrame} (hg : g.method = m) {rest : List Value} (hs : g.stack = .int j :: .ref a :: rest) (hd : decode c.code g.pc = .ok (.iaload, 1)) : ∀ t, Steps p.tables e below (T.setTop { g with pc := g.pc + 1, stack := v :: rest }) t → Steps p.tables e below (T.setTop g) t := by
  obtain ⟨cl, A, S, H⟩ := F
  subst hv
  exact X.iaload hx (by rw [eT]; exact A.1) (State.isArrayOf_alike hZ.alike A.2.1) A.2.2 (by rw [S]; exact own_in hj hi) (by rw [own_idx hj]; exact H i hi) hg hs hd
theorem own_lald (X : Stand p l e R s m args below meth c T locs cells slots) (hx : p.tables.exec = Jvm.exec) (hZ : Z.Warmed39 s.vm) (eT : T.heap = h) (F : own_Ar Z h a .long n f) {j : Int32} {i : Nat} {v : Value} (hj : j.toInt = i) (hi : i < n) (hv : f i = v)
    {g : JFrame} (hg : g.method = m) {rest : List Value} (hs : g.stack = .int j :: .ref a :: rest) (hd : decode c.code g.pc = .ok (.laload, 1)) : ∀ t, Steps p.tables e below (T.setTop { g with pc := g.pc + 1, stack := v :: rest }) t → Steps p.tables e below (T.setTop g) t := by
  obtain ⟨cl, A, S, H⟩ := F
  subst hv
  exact X.laload hx (by rw [eT]; exact A.1) (State.isArrayOf_alike hZ.alike A.2.1) A.2.2 (by rw [S]; exact own_in hj hi) (by rw [own_idx hj]; exact H i hi) hg hs hd
theorem own_bald (X : Stand p l e R s m args below meth c T locs cells slots) (hx : p.tables.exec = Jvm.exec) (hZ : Z.Warmed39 s.vm) (eT : T.heap = h) (F : own_Ar Z h a .byte n f) {j : Int32} {i : Nat} {v : Value} (hj : j.toInt = i) (hi : i < n) (hv : f i = v)
    {g : JFrame} (hg : g.method = m) {rest : List Value} (hs : g.stack = .int j :: .ref a :: rest) (hd : decode c.code g.pc = .ok (.baload, 1)) : ∀ t, Steps p.tables e below (T.setTop { g with pc := g.pc + 1, stack := v :: rest }) t → Steps p.tables e below (T.setTop g) t := by
  obtain ⟨cl, A, S, H⟩ := F
  subst hv
  exact X.baloadBytes hx (by rw [eT]; exact A.1) (State.isArrayOf_alike hZ.alike A.2.1) A.2.2 (by rw [S]; exact own_in hj hi) (by rw [own_idx hj]; exact H i hi) hg hs hd
theorem own_zald (X : Stand p l e R s m args below meth c T locs cells slots) (hx : p.tables.exec = Jvm.exec) (hZ : Z.Warmed39 s.vm) (eT : T.heap = h) (F : own_Ar Z h a .boolean n f) {j : Int32} {i : Nat} {v : Value} (hj : j.toInt = i) (hi : i < n) (hv : f i = v)
    {g : JFrame} (hg : g.method = m) {rest : List Value} (hs : g.stack = .int j :: .ref a :: rest) (hd : decode c.code g.pc = .ok (.baload, 1)) : ∀ t, Steps p.tables e below (T.setTop { g with pc := g.pc + 1, stack := v :: rest }) t → Steps p.tables e below (T.setTop g) t := by
  obtain ⟨cl, A, S, H⟩ := F
  subst hv
  exact X.baloadBooleans hx (by rw [eT]; exact A.1) (State.isArrayOf_alike hZ.alike A.2.1) A.2.2 (by rw [S]; exact own_in hj hi) (by rw [own_idx hj]; exact H i hi) hg hs hd
theorem own_iast (X : Stand p l e R s m args below meth c T locs cells slots) (hx : p.tables.exec = Jvm.exec) (hZ : Z.Warmed39 s.vm) (eT : T.heap = h) (F : own_Ar Z h a .int n f) {j x : Int32} {i : Nat} (hj : j.toInt = i) (hi : i < n)
    {g : JFrame} (hg : g.method = m) {rest : List Value} (hs : g.stack = .int x :: .int j :: .ref a :: rest) (hd : decode c.code g.pc = .ok (.iastore, 1)) :
    ∃ T' h', Stand p l e R s m args below meth c T' (locs ++ [⟨a, i⟩]) cells slots ∧ T'.heap = h' ∧ Wr h h' a i (.int x) ∧ ∀ t, Steps p.tables e below (T'.setTop { g with pc := g.pc + 1, stack := rest }) t → Steps p.tables e below (T.setTop g) t := by
  obtain ⟨cl, A, S, H⟩ := F
  have r := stI X hx hZ eT A (j := j) (by rw [S]; exact own_in hj hi) hg hs hd
  rw [own_idx hj] at r
  exact r
theorem own_last (X : Stand p l e R s m args below meth c T locs cells slots) (hx : p.tables.exec = Jvm.exec) (hZ : Z.Warmed39 s.vm) (eT : T.heap = h) (F : own_Ar Z h a .long n f) {j : Int32} {x : Int64} {i : Nat} (hj : j.toInt = i) (hi : i < n)
    {g : JFrame} (hg : g.method = m) {rest : List Value} (hs : g.stack = .long x :: .int j :: .ref a :: rest) (hd : decode c.code g.pc = .ok (.lastore, 1)) :
    ∃ T' h', Stand p l e R s m args below meth c T' (locs ++ [⟨a, i⟩]) cells slots ∧ T'.heap = h' ∧ Wr h h' a i (.long x) ∧ ∀ t, Steps p.tables e below (T'.setTop { g with pc := g.pc + 1, stack := rest }) t → Steps p.tables e below (T.setTop g) t := by
  obtain ⟨cl, A, S, H⟩ := F
  have r := stJ X hx hZ eT A (j := j) (by rw [S]; exact own_in hj hi) hg hs hd
  rw [own_idx hj] at r
  exact r
theorem own_bast (X : Stand p l e R s m args below meth c T locs cells slots) (hx : p.tables.exec = Jvm.exec) (hZ : Z.Warmed39 s.vm) (eT : T.heap = h) (F : own_Ar Z h a .byte n f) {j x : Int32} {i : Nat} (hj : j.toInt = i) (hi : i < n)
    {g : JFrame} (hg : g.method = m) {rest : List Value} (hs : g.stack = .int x :: .int j :: .ref a :: rest) (hd : decode c.code g.pc = .ok (.bastore, 1)) :
    ∃ T' h', Stand p l e R s m args below meth c T' (locs ++ [⟨a, i⟩]) cells slots ∧ T'.heap = h' ∧ Wr h h' a i (.int (nar .byte x)) ∧ ∀ t, Steps p.tables e below (T'.setTop { g with pc := g.pc + 1, stack := rest }) t → Steps p.tables e below (T.setTop g) t := by
  obtain ⟨cl, A, S, H⟩ := F
  have r := stB X hx hZ eT A (j := j) (x := x) (by rw [S]; exact own_in hj hi) hg hs hd
  rw [own_idx hj] at r
  exact r
theorem own_zast (X : Stand p l e R s m args below meth c T locs cells slots) (hx : p.tables.exec = Jvm.exec) (hZ : Z.Warmed39 s.vm) (eT : T.heap = h) (F : own_Ar Z h a .boolean n f) {j x : Int32} {i : Nat} (hj : j.toInt = i) (hi : i < n)
    {g : JFrame} (hg : g.method = m) {rest : List Value} (hs : g.stack = .int x :: .int j :: .ref a :: rest) (hd : decode c.code g.pc = .ok (.bastore, 1)) :
    ∃ T' h', Stand p l e R s m args below meth c T' (locs ++ [⟨a, i⟩]) cells slots ∧ T'.heap = h' ∧ Wr h h' a i (.int (nar .boolean x)) ∧ ∀ t, Steps p.tables e below (T'.setTop { g with pc := g.pc + 1, stack := rest }) t → Steps p.tables e below (T.setTop g) t := by
  obtain ⟨cl, A, S, H⟩ := F
  have r := stZ X hx hZ eT A (j := j) (x := x) (by rw [S]; exact own_in hj hi) hg hs hd
  rw [own_idx hj] at r
  exact r
end Arrays
end Jvm.RoadKit
namespace Jvm.RoadKit
open Sem ClassFile Op Lib Jvm.Stand Jvm.Free Jvm.LawKit
section ArraysX
variable {p : Program} {l : Launch} {e : Env} {R : Room} {s : State} {m : MethodId} {args : Array Value} {below : List Frame} {meth : Method} {c : Code} {T : State} {locs : List Loc} {cells slots : Nat} {Z : State} {a0 : Array Value} {h h' : Heap} {a b : Addr} {ty : FieldType} {n : Nat} {f : Nat → Value}
/-- an int array of n places of which nothing else is said -/
def own_AI (Z : State) (h : Heap) (a : Addr) (n : Nat) : Prop := ∃ g : Nat → Int32, own_Ar Z h a .int n (fun i => .int (g i))
theorem own_AI.lt (F : own_AI Z h a n) : a < h.size := by obtain ⟨g, F⟩ := F; exact F.lt
theorem own_AI.ext (F : own_AI Z h a n) (E : Ext h h') : own_AI Z h' a n := by obtain ⟨g, F⟩ := F; exact ⟨g, F.ext E⟩
theorem own_AI.keep {ws : List Addr} (F : own_AI Z h a n) (K : Keep h h' ws) (q : a ∉ ws) : own_AI Z h' a n := by obtain ⟨g, F⟩ := F; exact ⟨g, F.keep K q⟩
theorem own_AI.other {sl : Nat} {v : Value} (F : own_AI Z h b n) (W : Wr h h' a sl v) (q : b ≠ a) : own_AI Z h' b n := by obtain ⟨g, F⟩ := F; exact ⟨g, F.other W q⟩
theorem own_AI.set {i : Nat} {v : Int32} (F : own_AI Z h a n) (W : Wr h h' a i (.int v)) : own_AI Z h' a n := by
  obtain ⟨g, F⟩ := F
  exact ⟨fun j => if j = i then v else g j, (F.set W).congr fun j _ => (apply_ite Value.int _ _ _).symm⟩
theorem own_AI.new {k : ClassId} {z : Int32} (A : Arr Z h a (newA k .int z) .int) : own_AI Z h a z.toNatClampNeg := ⟨fun _ => 0, own_Ar.new A⟩
end ArraysX
end Jvm.RoadKit
namespace Jvm.Pilot.@@N@@
open Jvm Jvm.ClassFile Sem Op Lib Jvm.Free Jvm.Stand Jvm.LawKit Jvm.RoadKit Bundle Jvm.Pilot.@@N@@.Jvm.D
theorem own_at {a0 : Array Value} {Z : State} (hw : ∀ d ∈ tables_1, d.before a0 Z = true) (i : Nat) {d : Jvm.Cond} (h : tables_1[i]? = some d) : d.before a0 Z = true := hw _ (List.mem_of_getElem? h)
/-! plain facts on ints and longs -/
theorem own_char16 (u : UInt16) : (u.toUInt32.toInt32).toInt = u.toNat := by
  have h := u.toNat_lt
  show BitVec.toInt u.toUInt32.toBitVec = _
  rw [BitVec.toInt_eq_toNat_of_lt (by simp; omega)]
  simp
theorem own_char (y : Int32) : 0 ≤ (y.toUInt32.toUInt16.toUInt32.toInt32).toInt ∧ (y.toUInt32.toUInt16.toUInt32.toInt32).toInt < 65536 := by
  rw [own_char16]
  have h := y.toUInt32.toUInt16.toNat_lt
  omega
theorem own_fin32 {P : Int32 → Prop} (n : Nat) (h : ∀ k : Fin n, P (Int32.ofNat k)) (c : Int32) (h0 : 0 ≤ c.toInt) (h1 : c.toInt < n) : P c := by
  have e : c = Int32.ofNat c.toInt.toNat := by
    apply Int32.toInt_inj.mp
    have hb := c.toInt_lt
    rw [Int32.toInt_ofNat_of_lt (by omega)]
    omega
  rw [e]
  exact h ⟨c.toInt.toNat, by omega⟩
theorem own_lt32 (x y : Int32) : (x < y) ↔ x.toInt < y.toInt := Int32.lt_iff_toInt_lt
theorem own_eq32 (x y : Int32) : (x = y) ↔ x.toInt = y.toInt := Int32.toInt_inj.symm
theorem own_lt64 (x y : Int64) : (x < y) ↔ x.toInt < y.toInt := Int64.lt_iff_toInt_lt
theorem own_eq64 (x y : Int64) : (x = y) ↔ x.toInt = y.toInt := Int64.toInt_inj.symm

def own_W (Z : State) (h : Heap) (n0 : Nat) (w kA sA dA pA : Addr) (sv : Value) (K Sz : Nat → Int64) (D : Nat → Int32) (cnt : Nat) (fs : Int64) (mx am ix la : Int32) : Prop :=
  Exa Z h w "com/example/strati/strati/sim/WriteBuffer" ∧ Fld Z h w "com/example/strati/strati/sim/WriteBuffer" "keys" "[J" (.ref kA) ∧ Fld Z h w "com/example/strati/strati/sim/WriteBuffer" "sizes" "[J" (.ref sA) ∧ Fld Z h w "com/example/strati/strati/sim/WriteBuffer" "deletes" "[Z" (.ref dA) ∧ Fld Z h w "com/example/strati/strati/sim/WriteBuffer" "positions" "[I" (.ref pA) ∧ Fld Z h w "com/example/strati/strati/sim/WriteBuffer" "count" "I" (.int (Int32.ofNat cnt)) ∧ Fld Z h w "com/example/strati/strati/sim/WriteBuffer" "firstSize" "J" (.long fs) ∧ Fld Z h w "com/example/strati/strati/sim/WriteBuffer" "mixedSizes" "Z" (.int mx) ∧ Fld Z h w "com/example/strati/strati/sim/WriteBuffer" "anyMarker" "Z" (.int am) ∧ Fld Z h w "com/example/strati/strati/sim/WriteBuffer" "slots" "[I" sv ∧ Fld Z h w "com/example/strati/strati/sim/WriteBuffer" "indexed" "I" (.int ix) ∧ Fld Z h w "com/example/strati/strati/sim/WriteBuffer" "lastAdded" "I" (.int la) ∧
  own_Ar Z h kA .long 16 (fun uu => .long (K uu)) ∧ own_Ar Z h sA .long 16 (fun uu => .long (Sz uu)) ∧ own_Ar Z h dA .boolean 16 (fun uu => .int (D uu)) ∧ own_Ar Z h pA .int 0 (fun uu => .int ((fun _ => (0 : Int32)) uu)) ∧
  w ≠ kA ∧ w ≠ sA ∧ w ≠ dA ∧ w ≠ pA ∧ kA ≠ sA ∧ kA ≠ dA ∧ kA ≠ pA ∧ sA ≠ dA ∧ sA ≠ pA ∧ dA ≠ pA ∧ n0 ≤ w ∧ n0 ≤ kA ∧ n0 ≤ sA ∧ n0 ≤ dA ∧ (mx = 0 ∨ mx = 1) ∧ (am = 0 ∨ am = 1)
theorem own_W.exa {Z : State} {h : Heap} {n0 : Nat} {w kA sA dA pA : Addr} {sv : Value} {K Sz : Nat → Int64} {D : Nat → Int32} {cnt : Nat} {fs : Int64} {mx am ix la : Int32} (B : own_W Z h n0 w kA sA dA pA sv K Sz D cnt fs mx am ix la) : Exa Z h w "com/example/strati/strati/sim/WriteBuffer" := B.1
def own_I (Z : State) (h : Heap) (n0 : Nat) (w kA sA dA pA iA : Addr) (S : Nat → Int32) : Prop :=
  own_Ar Z h iA .int 16 (fun uu => .int (S uu)) ∧ w ≠ iA ∧ kA ≠ iA ∧ sA ≠ iA ∧ dA ≠ iA ∧ pA ≠ iA ∧ n0 ≤ iA
theorem own_toI {n : Nat} (h : n < 2147483648) : (Int32.ofNat n).toInt = n := Int32.toInt_ofNat_of_lt h
theorem own_cnt (n : Nat) : Int32.ofNat n + (1 : Int32) = Int32.ofNat (n + 1) := Int32.ofNat_succ n
theorem own_inc {i : Int32} {k : Nat} (h : i.toInt = (k : Nat)) (hk : k < 2147483647) : (i + (1 : Int32)).toInt = ((k + 1 : Nat) : Int) := by
  have k1 : (1 : Int32).toInt = 1 := rfl
  rw [Jvm.Kit.i32_add (by rw [k1]; omega) (by rw [k1]; omega), k1, h]; omega
theorem own_self {i : Int32} {k : Nat} (h : i.toInt = (k : Nat)) : Int32.ofNat k = i := by
  have b := i.toInt_lt
  rw [own_eq32, own_toI (by omega), h]
def own_q (x : Int32) : Nat := x.toInt.toNat - 1
def own_OK (S : Nat → Int32) : Prop := ∀ i, i < 16 → S i = 0 ∨ (1 ≤ (S i).toInt ∧ (S i).toInt ≤ 16)
theorem own_qe {S : Nat → Int32} (hS : own_OK S) {a : Nat} (ha : a < 16) (h : ¬ S a = (0 : Int32)) : (S a - (1 : Int32)).toInt = (own_q (S a) : Nat) ∧ own_q (S a) < 16 := by
  have k1 : (1 : Int32).toInt = 1 := rfl
  have b := (hS a ha).resolve_left h
  unfold own_q
  rw [Jvm.Kit.i32_sub (by rw [k1]; omega) (by rw [k1]; omega), k1]
  omega
theorem own_nxt {iv : Int32} {a : Nat} (h : iv.toInt = (a : Nat)) (ha : a < 16) : ((iv + (1 : Int32)) &&& (15 : Int32)).toInt = (((a + 1) % 16 : Nat) : Int) := by
  have e := own_inc h (by omega)
  have m : ((iv + (1 : Int32)) &&& (15 : Int32)).toInt = (iv + (1 : Int32)).toInt % 2 ^ 4 := Jvm.Kit.i32_mask _ _ (k := 4) (by decide) (by decide)
  rw [m, e]
  omega

theorem d2_0 : decode jdk_30_method_1_code 0 = .ok (.aload_n 0, 1) := by decide +kernel
theorem d2_1 : decode jdk_30_method_1_code 1 = .ok (.invokespecial 1, 3) := by decide +kernel
theorem d2_4 : decode jdk_30_method_1_code 4 = .ok (.return_, 1) := by decide +kernel
theorem pn_2 : plainName "java/lang/Record" = true := by first | (simp [plainName, overriddenIn]; done) | decide +kernel
theorem pd_2 : parseMethodDescriptor "()V" = some ⟨[], none⟩ := by decide +kernel
theorem ef_2 (m : MethodId) (x0 : Addr) : entryFrame m #[(.ref x0)] 1 = mkF m 0 #[.val (.ref x0)] [] := by first | (simp [entryFrame, mkF, argsToLocals, Value.category]; done) | rfl
def own_F2 (Z : State) (x0 : Addr)  (h0 : Heap) (v : Option Value) (h : Heap) (L : List Loc) : Prop := v = none ∧ L = [] ∧ h = h0
set_option maxRecDepth 65536 in
set_option maxHeartbeats 40000000 in
theorem own_m2 (l : Launch) (Z : State) (a0 : Array Value) (hw : ∀ d ∈ tables_1, d.before a0 Z = true) (ws : List Jvm.Cond) (x0 : Addr)  (h0 : Heap)   :
    MetFree l (⟨"java/lang/Record", "<init>", "()V"⟩ : MethodName) (head1 (Jvm.Cond.code (⟨"java/lang/Record", "<init>", "()V"⟩ : MethodName) jdk_30_method_1_code 1 none :: ws) ({ frames := 1, cells := 0, slots := 0, locals := 12 } : Room)) (fun a U => a = #[(.ref x0)] ∧ Z.Warmed39 U.vm ∧ U.heap = h0) (fun _ _ _ _ _ => True) (fun _ U o U' => ∃ v L, o = .returned v ∧ own_F2 Z x0 h0 v U'.heap L ∧ FrameEnd U o U' L ({ frames := 1, cells := 0, slots := 0, locals := 12 } : Room).cells ({ frames := 1, cells := 0, slots := 0, locals := 12 } : Room).slots) := by
  refine MetFree.of_bodySF (plainFor_of_name pn_2) hisR ?_
  intro p e s m args below meth c s₁ Bd hml0 hP hK
  obtain ⟨rfl, hZ, hh⟩ := hP
  have hx := Bd.exec
  have hby := Bd.bytes
  have hml : c.maxLocals = 1 := hml0
  have hown : s.vm.findClass "java/lang/Record" = some m.cls := findClass_of_methodNamed Bd.named
  have hnm := (name_of_methodNamed Bd.named Bd.method).1
  have X0 : Stand p l e ({ frames := 1, cells := 0, slots := 0, locals := 12 } : Room) s m #[(.ref x0)] below meth c s₁ [] 0 0 := Stand.of_body Bd
  have e0 : s₁.heap = h0 := by rw [← hh, Bd.state]; rfl
  have hgo : own_Goes p e below s (own_F2 Z x0 h0) 0 0 (s₁.setTop (mkF m 0 #[.val (.ref x0)] [])) := by
    refine own_Goes.step (fun tq kq => XS.aloadN X0.here hx rfl (hb hby d2_0) rfl rfl kq) ?_
    show own_Goes _ _ _ _ _ _ _ (s₁.setTop (mkF m 1 #[.val (.ref x0)] [(.ref x0)]))
    obtain ⟨T1, X1, e1, st1⟩ := initO X0 hx hZ hown (own_at hw 12 rfl) (own_at hw 13 rfl) (own_at hw 14 rfl) e0 (g := (mkF m 1 #[.val (.ref x0)] [(.ref x0)])) rfl (by rw [hml]; rfl) rfl (hb hby d2_1) (by decide) (W := 0) (by show 2 * 0 + _ ≤ _; exact Nat.le_of_eq rfl) (by decide)
    refine own_Goes.step st1 ?_
    show own_Goes _ _ _ _ _ _ _ (T1.setTop (mkF m 4 #[.val (.ref x0)] []))
    exact own_endV X1 hx Bd.notSynchronized Bd.returns (hb hby d2_4) ⟨rfl, rfl, e1⟩ (by decide) (by decide)
  obtain ⟨t2, o2, q1, q2, q3, q4⟩ := hgo
  exact ⟨t2, o2, castTop (ef_2 m x0) q1, q2, q3, q4⟩
theorem d1_0 : decode prog_35_method_1_code 0 = .ok (.aload_n 0, 1) := by decide +kernel
theorem d1_1 : decode prog_35_method_1_code 1 = .ok (.invokespecial 1, 3) := by decide +kernel
theorem d1_4 : decode prog_35_method_1_code 4 = .ok (.aload_n 0, 1) := by decide +kernel
theorem d1_5 : decode prog_35_method_1_code 5 = .ok (.lload_n 1, 1) := by decide +kernel
theorem d1_6 : decode prog_35_method_1_code 6 = .ok (.putfield 7, 3) := by decide +kernel
theorem d1_9 : decode prog_35_method_1_code 9 = .ok (.aload_n 0, 1) := by decide +kernel
theorem d1_10 : decode prog_35_method_1_code 10 = .ok (.iload_n 3, 1) := by decide +kernel
theorem d1_11 : decode prog_35_method_1_code 11 = .ok (.putfield 13, 3) := by decide +kernel
theorem d1_14 : decode prog_35_method_1_code 14 = .ok (.return_, 1) := by decide +kernel
theorem pn_1 : plainName "com/example/strati/strati/sim/Entry" = true := by first | (simp [plainName, overriddenIn]; done) | decide +kernel
theorem pd_1 : parseMethodDescriptor "(JZ)V" = some ⟨[.long, .boolean], none⟩ := by decide +kernel
theorem ef_1 (m : MethodId) (x0 : Addr) (x1 : Int64) (x2 : Int32) : entryFrame m #[(.ref x0), (.long x1), (.int x2)] 4 = mkF m 0 #[.val (.ref x0), .val (.long x1), .second, .val (.int x2)] [] := by first | (simp [entryFrame, mkF, argsToLocals, Value.category]; done) | rfl
def own_f1_size (x1 : Int64) (x2 : Int32) : Int64 := x1
def own_f1_delete (x1 : Int64) (x2 : Int32) : Int32 := x2
def own_F1 (Z : State) (x0 : Addr) (x1 : Int64) (x2 : Int32)  (n0 : Nat) (h0 : Heap) (v : Option Value) (h : Heap) (L : List Loc) : Prop := v = none ∧ Fr n0 L ∧ Keep h0 h [x0] ∧ Exa Z h x0 "com/example/strati/strati/sim/Entry" ∧ Fld Z h x0 "com/example/strati/strati/sim/Entry" "size" "J" (.long (own_f1_size x1 x2)) ∧ Fld Z h x0 "com/example/strati/strati/sim/Entry" "delete" "Z" (.int (own_f1_delete x1 x2))
set_option maxRecDepth 65536 in
set_option maxHeartbeats 40000000 in
theorem own_m1 (l : Launch) (Z : State) (a0 : Array Value) (hw : ∀ d ∈ tables_1, d.before a0 Z = true) (ws : List Jvm.Cond) (x0 : Addr) (x1 : Int64) (x2 : Int32)  (n0 : Nat) (h0 : Heap) (E0 : Exa Z h0 x0 "com/example/strati/strati/sim/Entry") (g0 : n0 ≤ x0) (P0 : Fld Z h0 x0 "com/example/strati/strati/sim/Entry" "size" "J" (.long (0 : Int64))) (P1 : Fld Z h0 x0 "com/example/strati/strati/sim/Entry" "delete" "Z" (.int (0 : Int32))) (hd : x2 = 0 ∨ x2 = 1) :
    MetFree l (⟨"com/example/strati/strati/sim/Entry", "<init>", "(JZ)V"⟩ : MethodName) (head1 (Jvm.Cond.code (⟨"com/example/strati/strati/sim/Entry", "<init>", "(JZ)V"⟩ : MethodName) prog_35_method_1_code 4 none :: ws) ({ frames := 2, cells := 0, slots := 0, locals := 24 } : Room)) (fun a U => a = #[(.ref x0), (.long x1), (.int x2)] ∧ Z.Warmed39 U.vm ∧ U.heap = h0) (fun _ _ _ _ _ => True) (fun _ U o U' => ∃ v L, o = .returned v ∧ own_F1 Z x0 x1 x2 n0 h0 v U'.heap L ∧ FrameEnd U o U' L ({ frames := 2, cells := 0, slots := 0, locals := 24 } : Room).cells ({ frames := 2, cells := 0, slots := 0, locals := 24 } : Room).slots) := by
  refine MetFree.of_bodySF (plainFor_of_name pn_1) hisR ?_
  intro p e s m args below meth c s₁ Bd hml0 hP hK
  obtain ⟨rfl, hZ, hh⟩ := hP
  have hx := Bd.exec
  have hby := Bd.bytes
  have hml : c.maxLocals = 4 := hml0
  have hown : s.vm.findClass "com/example/strati/strati/sim/Entry" = some m.cls := findClass_of_methodNamed Bd.named
  have hnm := (name_of_methodNamed Bd.named Bd.method).1
  have X0 : Stand p l e ({ frames := 2, cells := 0, slots := 0, locals := 24 } : Room) s m #[(.ref x0), (.long x1), (.int x2)] below meth c s₁ [] 0 0 := Stand.of_body Bd
  have e0 : s₁.heap = h0 := by rw [← hh, Bd.state]; rfl
  have N0 := Fr.nil n0
  have K0 : Keep h0 h0 [x0] := Keep.refl h0 [x0]
  have Z0 : n0 ≤ h0.size := Nat.le_trans g0 (Nat.le_of_lt E0.lt)
  have hgo : own_Goes p e below s (own_F1 Z x0 x1 x2 n0 h0) 0 0 (s₁.setTop (mkF m 0 #[.val (.ref x0), .val (.long x1), .second, .val (.int x2)] [])) := by
    refine own_Goes.step (fun tq kq => XS.aloadN X0.here hx rfl (hb hby d1_0) rfl rfl kq) ?_
    show own_Goes _ _ _ _ _ _ _ (s₁.setTop (mkF m 1 #[.val (.ref x0), .val (.long x1), .second, .val (.int x2)] [(.ref x0)]))
    obtain ⟨w1, T1, L1, q1, Y1, st1⟩ := own_spec X0 hx hZ e0 rfl hown (own_at hw 7 rfl) (own_at hw 8 rfl) (own_at hw 10 rfl) (own_at hw 11 rfl) (by decide) (own_m2 l Z a0 hw [] x0  h0  ) (by decide) (W := 0) (by decide) (by decide) (by decide) (g := (mkF m 1 #[.val (.ref x0), .val (.long x1), .second, .val (.int x2)] [(.ref x0)])) rfl (by rw [hml]; rfl) (a := x0) (argsL := []) (rest := []) (lenOf pd_2 rfl) rfl (by show 2 * 0 + _ ≤ _; exact Nat.le_of_eq rfl) (hb hby d1_1)
    obtain ⟨e1, X1⟩ := own_clean q1 Y1 rfl rfl
    obtain ⟨rfl, -, -⟩ := q1
    refine own_Goes.step st1 ?_
    show own_Goes _ _ _ _ _ _ _ (T1.setTop (mkF m 4 #[.val (.ref x0), .val (.long x1), .second, .val (.int x2)] []))
    refine own_Goes.step (fun tq kq => XS.aloadN X1.here hx rfl (hb hby d1_4) rfl rfl kq) ?_
    show own_Goes _ _ _ _ _ _ _ (T1.setTop (mkF m 5 #[.val (.ref x0), .val (.long x1), .second, .val (.int x2)] [(.ref x0)]))
    refine own_Goes.step (fun tq kq => XT.lloadN X1.here hx rfl (hb hby d1_5) rfl kq) ?_
    show own_Goes _ _ _ _ _ _ _ (T1.setTop (mkF m 6 #[.val (.ref x0), .val (.long x1), .second, .val (.int x2)] [(.long x1), (.ref x0)]))
    obtain ⟨T2, h2, X2, e2, W2, st2⟩ := putF X1 hx hZ hown (host := "") (Or.inl (own_at hw 15 rfl)) Via.refl e1 (v := (.long x1)) P0 E0 (Or.inr ⟨(own_at hw 16 rfl), rfl, hnm⟩) (own_at hw 1 rfl) (ty := .long) (by decide) rfl rfl (g := (mkF m 6 #[.val (.ref x0), .val (.long x1), .second, .val (.int x2)] [(.long x1), (.ref x0)])) rfl rfl (hb hby d1_6)
    refine own_Goes.step st2 ?_
    have f3 := E0.wr W2
    have f4 := P0.same W2
    have f5 := P1.other W2 (Or.inr (slot_ne (Or.inr (own_at hw 18 rfl)) (Or.inr (own_at hw 16 rfl)) (by decide) (t := .boolean) (t' := .long) (by decide) (by decide)))
    have K6 := K0.wr W2 (Or.inl (List.mem_of_getElem? (i := 0) rfl))
    have N7 := Fr.snoc X2 N0 g0
    have Z8 : n0 ≤ h2.size := Nat.le_trans Z0 (Keep.of_wr W2).1
    show own_Goes _ _ _ _ _ _ _ (T2.setTop (mkF m 9 #[.val (.ref x0), .val (.long x1), .second, .val (.int x2)] []))
    refine own_Goes.step (fun tq kq => XS.aloadN X2.here hx rfl (hb hby d1_9) rfl rfl kq) ?_
    show own_Goes _ _ _ _ _ _ _ (T2.setTop (mkF m 10 #[.val (.ref x0), .val (.long x1), .second, .val (.int x2)] [(.ref x0)]))
    refine own_Goes.step (fun tq kq => XS.iloadN X2.here hx rfl (hb hby d1_10) rfl kq) ?_
    show own_Goes _ _ _ _ _ _ _ (T2.setTop (mkF m 11 #[.val (.ref x0), .val (.long x1), .second, .val (.int x2)] [(.int x2), (.ref x0)]))
    obtain ⟨T9, h9, X9, e9, W9, st9⟩ := putF X2 hx hZ hown (host := "") (Or.inl (own_at hw 17 rfl)) Via.refl e2 (v := (.int x2)) f5 f3 (Or.inr ⟨(own_at hw 18 rfl), rfl, hnm⟩) (own_at hw 1 rfl) (ty := .boolean) (by decide) (by rcases hd with rfl | rfl <;> rfl) (by rcases hd with rfl | rfl <;> rfl) (g := (mkF m 11 #[.val (.ref x0), .val (.long x1), .second, .val (.int x2)] [(.int x2), (.ref x0)])) rfl rfl (hb hby d1_11)
    refine own_Goes.step st9 ?_
    have f10 := f3.wr W9
    have f11 := f4.other W9 (Or.inr (slot_ne (Or.inr (own_at hw 16 rfl)) (Or.inr (own_at hw 18 rfl)) (by decide) (t := .long) (t' := .boolean) (by decide) (by decide)))
    have f12 := f5.same W9
    have K13 := K6.wr W9 (Or.inl (List.mem_of_getElem? (i := 0) rfl))
    have N14 := Fr.snoc X9 N7 g0
    have Z15 : n0 ≤ h9.size := Nat.le_trans Z8 (Keep.of_wr W9).1
    show own_Goes _ _ _ _ _ _ _ (T9.setTop (mkF m 14 #[.val (.ref x0), .val (.long x1), .second, .val (.int x2)] []))
    refine own_endV X9 hx Bd.notSynchronized Bd.returns (hb hby d1_14) ?_ (by decide) (by decide)
    show own_F1 Z x0 x1 x2 n0 h0 _ T9.heap _
    rw [e9]
    exact ⟨rfl, N14, K13, f10, f11, f12⟩
  obtain ⟨t2, o2, q1, q2, q3, q4⟩ := hgo
  exact ⟨t2, o2, castTop (ef_1 m x0 x1 x2) q1, q2, q3, q4⟩
theorem d6_0 : decode prog_35_method_6_code 0 = .ok (.aload_n 0, 1) := by decide +kernel
theorem d6_1 : decode prog_35_method_6_code 1 = .ok (.getfield 7, 3) := by decide +kernel
theorem d6_4 : decode prog_35_method_6_code 4 = .ok (.lreturn, 1) := by decide +kernel
theorem pn_6 : plainName "com/example/strati/strati/sim/Entry" = true := by first | (simp [plainName, overriddenIn]; done) | decide +kernel
theorem pd_6 : parseMethodDescriptor "()J" = some ⟨[], (some .long)⟩ := by decide +kernel
theorem ef_6 (m : MethodId) (x0 : Addr) : entryFrame m #[(.ref x0)] 1 = mkF m 0 #[.val (.ref x0)] [] := by first | (simp [entryFrame, mkF, argsToLocals, Value.category]; done) | rfl
def own_f6 (z : Int64) : Int64 := z
def own_F6 (Z : State) (x0 : Addr) (z : Int64) (h0 : Heap) (v : Option Value) (h : Heap) (L : List Loc) : Prop := v = some (.long (own_f6 z)) ∧ L = [] ∧ h = h0
set_option maxRecDepth 65536 in
set_option maxHeartbeats 40000000 in
theorem own_m6 (l : Launch) (Z : State) (a0 : Array Value) (hw : ∀ d ∈ tables_1, d.before a0 Z = true) (ws : List Jvm.Cond) (x0 : Addr) (z : Int64) (h0 : Heap) (P0 : Fld Z h0 x0 "com/example/strati/strati/sim/Entry" "size" "J" (.long z))  :
    MetFree l (⟨"com/example/strati/strati/sim/Entry", "size", "()J"⟩ : MethodName) (head1 (Jvm.Cond.code (⟨"com/example/strati/strati/sim/Entry", "size", "()J"⟩ : MethodName) prog_35_method_6_code 1 (some .long) :: ws) ({ frames := 0, cells := 0, slots := 0, locals := 0 } : Room)) (fun a U => a = #[(.ref x0)] ∧ Z.Warmed39 U.vm ∧ U.heap = h0) (fun _ _ _ _ _ => True) (fun _ U o U' => ∃ v L, o = .returned v ∧ own_F6 Z x0 z h0 v U'.heap L ∧ FrameEnd U o U' L ({ frames := 0, cells := 0, slots := 0, locals := 0 } : Room).cells ({ frames := 0, cells := 0, slots := 0, locals := 0 } : Room).slots) := by
  refine MetFree.of_bodySF (plainFor_of_name pn_6) hisR ?_
  intro p e s m args below meth c s₁ Bd hml0 hP hK
  obtain ⟨rfl, hZ, hh⟩ := hP
  have hx := Bd.exec
  have hby := Bd.bytes
  have hml : c.maxLocals = 1 := hml0
  have hown : s.vm.findClass "com/example/strati/strati/sim/Entry" = some m.cls := findClass_of_methodNamed Bd.named
  have hnm := (name_of_methodNamed Bd.named Bd.method).1
  have X0 : Stand p l e ({ frames := 0, cells := 0, slots := 0, locals := 0 } : Room) s m #[(.ref x0)] below meth c s₁ [] 0 0 := Stand.of_body Bd
  have e0 : s₁.heap = h0 := by rw [← hh, Bd.state]; rfl
  have hgo : own_Goes p e below s (own_F6 Z x0 z h0) 0 0 (s₁.setTop (mkF m 0 #[.val (.ref x0)] [])) := by
    refine own_Goes.step (fun tq kq => XS.aloadN X0.here hx rfl (hb hby d6_0) rfl rfl kq) ?_
    show own_Goes _ _ _ _ _ _ _ (s₁.setTop (mkF m 1 #[.val (.ref x0)] [(.ref x0)]))
    obtain ⟨T1, X1, e1, st1⟩ := getF X0 hx hZ hown (host := "") (Or.inl (own_at hw 15 rfl)) Via.refl e0 P0 (g := (mkF m 1 #[.val (.ref x0)] [(.ref x0)])) rfl rfl (hb hby d6_1)
    refine own_Goes.step st1 ?_
    show own_Goes _ _ _ _ _ _ _ (T1.setTop (mkF m 4 #[.val (.ref x0)] [(.long z)]))
    exact own_endJ X1 hx Bd.notSynchronized Bd.returns (hb hby d6_4) ⟨(congrArg (fun z => some (Value.long z)) (show z = own_f6 z from by simp only [own_f6])), rfl, e1⟩ (by decide) (by decide)
  obtain ⟨t2, o2, q1, q2, q3, q4⟩ := hgo
  exact ⟨t2, o2, castTop (ef_6 m x0) q1, q2, q3, q4⟩
theorem d7_0 : decode prog_35_method_7_code 0 = .ok (.aload_n 0, 1) := by decide +kernel
theorem d7_1 : decode prog_35_method_7_code 1 = .ok (.getfield 13, 3) := by decide +kernel
theorem d7_4 : decode prog_35_method_7_code 4 = .ok (.ireturn, 1) := by decide +kernel
theorem pn_7 : plainName "com/example/strati/strati/sim/Entry" = true := by first | (simp [plainName, overriddenIn]; done) | decide +kernel
theorem pd_7 : parseMethodDescriptor "()Z" = some ⟨[], (some .boolean)⟩ := by decide +kernel
theorem ef_7 (m : MethodId) (x0 : Addr) : entryFrame m #[(.ref x0)] 1 = mkF m 0 #[.val (.ref x0)] [] := by first | (simp [entryFrame, mkF, argsToLocals, Value.category]; done) | rfl
def own_f7 (d : Int32) : Int32 := (nar .boolean d)
def own_F7 (Z : State) (x0 : Addr) (d : Int32) (h0 : Heap) (v : Option Value) (h : Heap) (L : List Loc) : Prop := v = some (.int (own_f7 d)) ∧ L = [] ∧ h = h0
set_option maxRecDepth 65536 in
set_option maxHeartbeats 40000000 in
theorem own_m7 (l : Launch) (Z : State) (a0 : Array Value) (hw : ∀ d ∈ tables_1, d.before a0 Z = true) (ws : List Jvm.Cond) (x0 : Addr) (d : Int32) (h0 : Heap) (P0 : Fld Z h0 x0 "com/example/strati/strati/sim/Entry" "delete" "Z" (.int d))  :
    MetFree l (⟨"com/example/strati/strati/sim/Entry", "delete", "()Z"⟩ : MethodName) (head1 (Jvm.Cond.code (⟨"com/example/strati/strati/sim/Entry", "delete", "()Z"⟩ : MethodName) prog_35_method_7_code 1 (some .boolean) :: ws) ({ frames := 0, cells := 0, slots := 0, locals := 0 } : Room)) (fun a U => a = #[(.ref x0)] ∧ Z.Warmed39 U.vm ∧ U.heap = h0) (fun _ _ _ _ _ => True) (fun _ U o U' => ∃ v L, o = .returned v ∧ own_F7 Z x0 d h0 v U'.heap L ∧ FrameEnd U o U' L ({ frames := 0, cells := 0, slots := 0, locals := 0 } : Room).cells ({ frames := 0, cells := 0, slots := 0, locals := 0 } : Room).slots) := by
  refine MetFree.of_bodySF (plainFor_of_name pn_7) hisR ?_
  intro p e s m args below meth c s₁ Bd hml0 hP hK
  obtain ⟨rfl, hZ, hh⟩ := hP
  have hx := Bd.exec
  have hby := Bd.bytes
  have hml : c.maxLocals = 1 := hml0
  have hown : s.vm.findClass "com/example/strati/strati/sim/Entry" = some m.cls := findClass_of_methodNamed Bd.named
  have hnm := (name_of_methodNamed Bd.named Bd.method).1
  have X0 : Stand p l e ({ frames := 0, cells := 0, slots := 0, locals := 0 } : Room) s m #[(.ref x0)] below meth c s₁ [] 0 0 := Stand.of_body Bd
  have e0 : s₁.heap = h0 := by rw [← hh, Bd.state]; rfl
  have hgo : own_Goes p e below s (own_F7 Z x0 d h0) 0 0 (s₁.setTop (mkF m 0 #[.val (.ref x0)] [])) := by
    refine own_Goes.step (fun tq kq => XS.aloadN X0.here hx rfl (hb hby d7_0) rfl rfl kq) ?_
    show own_Goes _ _ _ _ _ _ _ (s₁.setTop (mkF m 1 #[.val (.ref x0)] [(.ref x0)]))
    obtain ⟨T1, X1, e1, st1⟩ := getF X0 hx hZ hown (host := "") (Or.inl (own_at hw 17 rfl)) Via.refl e0 P0 (g := (mkF m 1 #[.val (.ref x0)] [(.ref x0)])) rfl rfl (hb hby d7_1)
    refine own_Goes.step st1 ?_
    show own_Goes _ _ _ _ _ _ _ (T1.setTop (mkF m 4 #[.val (.ref x0)] [(.int d)]))
    exact own_endN X1 hx Bd.notSynchronized (t := .boolean) Bd.returns (by simp) (hb hby d7_4) ⟨(congrArg (fun z => some (Value.int z)) (show (nar .boolean d) = own_f7 d from by simp only [own_f7])), rfl, e1⟩ (by decide) (by decide)
  obtain ⟨t2, o2, q1, q2, q3, q4⟩ := hgo
  exact ⟨t2, o2, castTop (ef_7 m x0) q1, q2, q3, q4⟩
theorem d12_0 : decode prog_54_method_5_code 0 = .ok (.lload_n 0, 1) := by decide +kernel
theorem d12_1 : decode prog_54_method_5_code 1 = .ok (.lload_n 0, 1) := by decide +kernel
theorem d12_2 : decode prog_54_method_5_code 2 = .ok (.bipush 30, 2) := by decide +kernel
theorem d12_4 : decode prog_54_method_5_code 4 = .ok (.lushr, 1) := by decide +kernel
theorem d12_5 : decode prog_54_method_5_code 5 = .ok (.lxor, 1) := by decide +kernel
theorem d12_6 : decode prog_54_method_5_code 6 = .ok (.ldc2_w 29, 3) := by decide +kernel
theorem d12_9 : decode prog_54_method_5_code 9 = .ok (.lmul, 1) := by decide +kernel
theorem d12_10 : decode prog_54_method_5_code 10 = .ok (.lstore_n 0, 1) := by decide +kernel
theorem d12_11 : decode prog_54_method_5_code 11 = .ok (.lload_n 0, 1) := by decide +kernel
theorem d12_12 : decode prog_54_method_5_code 12 = .ok (.lload_n 0, 1) := by decide +kernel
theorem d12_13 : decode prog_54_method_5_code 13 = .ok (.bipush 27, 2) := by decide +kernel
theorem d12_15 : decode prog_54_method_5_code 15 = .ok (.lushr, 1) := by decide +kernel
theorem d12_16 : decode prog_54_method_5_code 16 = .ok (.lxor, 1) := by decide +kernel
theorem d12_17 : decode prog_54_method_5_code 17 = .ok (.ldc2_w 31, 3) := by decide +kernel
theorem d12_20 : decode prog_54_method_5_code 20 = .ok (.lmul, 1) := by decide +kernel
theorem d12_21 : decode prog_54_method_5_code 21 = .ok (.lstore_n 0, 1) := by decide +kernel
theorem d12_22 : decode prog_54_method_5_code 22 = .ok (.lload_n 0, 1) := by decide +kernel
theorem d12_23 : decode prog_54_method_5_code 23 = .ok (.lload_n 0, 1) := by decide +kernel
theorem d12_24 : decode prog_54_method_5_code 24 = .ok (.bipush 31, 2) := by decide +kernel
theorem d12_26 : decode prog_54_method_5_code 26 = .ok (.lushr, 1) := by decide +kernel
theorem d12_27 : decode prog_54_method_5_code 27 = .ok (.lxor, 1) := by decide +kernel
theorem d12_28 : decode prog_54_method_5_code 28 = .ok (.lreturn, 1) := by decide +kernel
theorem pn_12 : plainName "com/example/strati/strati/sim/SplitMix64" = true := by first | (simp [plainName, overriddenIn]; done) | decide +kernel
theorem pd_12 : parseMethodDescriptor "(J)J" = some ⟨[.long], (some .long)⟩ := by decide +kernel
theorem ef_12 (m : MethodId) (x0 : Int64) : entryFrame m #[(.long x0)] 2 = mkF m 0 #[.val (.long x0), .second] [] := by first | (simp [entryFrame, mkF, argsToLocals, Value.category]; done) | rfl
def own_f12_1 (x0 : Int64) : Int64 := ((x0 ^^^ (XT.ushrL x0 (30 : Int32))) * (-4658895280553007687 : Int64))
def own_f12_2 (x0 : Int64) : Int64 := (((own_f12_1 x0) ^^^ (XT.ushrL (own_f12_1 x0) (27 : Int32))) * (-7723592293110705685 : Int64))
def own_f12 (x0 : Int64) : Int64 := ((own_f12_2 x0) ^^^ (XT.ushrL (own_f12_2 x0) (31 : Int32)))
def own_F12 (Z : State) (x0 : Int64)  (h0 : Heap) (v : Option Value) (h : Heap) (L : List Loc) : Prop := v = some (.long (own_f12 x0)) ∧ L = [] ∧ h = h0
set_option maxRecDepth 65536 in
set_option maxHeartbeats 40000000 in
theorem own_m12 (l : Launch) (Z : State) (a0 : Array Value) (hw : ∀ d ∈ tables_1, d.before a0 Z = true) (ws : List Jvm.Cond) (x0 : Int64)  (h0 : Heap)   :
    MetFree l (⟨"com/example/strati/strati/sim/SplitMix64", "mix", "(J)J"⟩ : MethodName) (head1 (Jvm.Cond.code (⟨"com/example/strati/strati/sim/SplitMix64", "mix", "(J)J"⟩ : MethodName) prog_54_method_5_code 2 (some .long) :: ws) ({ frames := 0, cells := 0, slots := 0, locals := 0 } : Room)) (fun a U => a = #[(.long x0)] ∧ Z.Warmed39 U.vm ∧ U.heap = h0) (fun _ _ _ _ _ => True) (fun _ U o U' => ∃ v L, o = .returned v ∧ own_F12 Z x0 h0 v U'.heap L ∧ FrameEnd U o U' L ({ frames := 0, cells := 0, slots := 0, locals := 0 } : Room).cells ({ frames := 0, cells := 0, slots := 0, locals := 0 } : Room).slots) := by
  refine MetFree.of_bodySF (plainFor_of_name pn_12) hisR ?_
  intro p e s m args below meth c s₁ Bd hml0 hP hK
  obtain ⟨rfl, hZ, hh⟩ := hP
  have hx := Bd.exec
  have hby := Bd.bytes
  have hml : c.maxLocals = 2 := hml0
  have hown : s.vm.findClass "com/example/strati/strati/sim/SplitMix64" = some m.cls := findClass_of_methodNamed Bd.named
  have hnm := (name_of_methodNamed Bd.named Bd.method).1
  have X0 : Stand p l e ({ frames := 0, cells := 0, slots := 0, locals := 0 } : Room) s m #[(.long x0)] below meth c s₁ [] 0 0 := Stand.of_body Bd
  have e0 : s₁.heap = h0 := by rw [← hh, Bd.state]; rfl
  have hgo : own_Goes p e below s (own_F12 Z x0 h0) 0 0 (s₁.setTop (mkF m 0 #[.val (.long x0), .second] [])) := by
    refine own_Goes.step (fun tq kq => XT.lloadN X0.here hx rfl (hb hby d12_0) rfl kq) ?_
    show own_Goes _ _ _ _ _ _ _ (s₁.setTop (mkF m 1 #[.val (.long x0), .second] [(.long x0)]))
    refine own_Goes.step (fun tq kq => XT.lloadN X0.here hx rfl (hb hby d12_1) rfl kq) ?_
    show own_Goes _ _ _ _ _ _ _ (s₁.setTop (mkF m 2 #[.val (.long x0), .second] [(.long x0), (.long x0)]))
    refine own_Goes.step (fun tq kq => XT.bipushV X0.here hx rfl (30 : Int32) (hb hby d12_2) (by decide) kq) ?_
    show own_Goes _ _ _ _ _ _ _ (s₁.setTop (mkF m 4 #[.val (.long x0), .second] [(.int (30 : Int32)), (.long x0), (.long x0)]))
    refine own_Goes.step (fun tq kq => XT.lushr X0.here hx rfl (hb hby d12_4) rfl kq) ?_
    show own_Goes _ _ _ _ _ _ _ (s₁.setTop (mkF m 5 #[.val (.long x0), .second] [(.long (XT.ushrL x0 (30 : Int32))), (.long x0)]))
    refine own_Goes.step (fun tq kq => XT.lxor X0.here hx rfl (hb hby d12_5) rfl kq) ?_
    show own_Goes _ _ _ _ _ _ _ (s₁.setTop (mkF m 6 #[.val (.long x0), .second] [(.long (x0 ^^^ (XT.ushrL x0 (30 : Int32))))]))
    refine own_Goes.step (fun tq kq => X0.ldc2J hx hown (mvT hZ (own_at hw 87 rfl)) rfl (hb hby d12_6) kq) ?_
    show own_Goes _ _ _ _ _ _ _ (s₁.setTop (mkF m 9 #[.val (.long x0), .second] [(.long (-4658895280553007687 : Int64)), (.long (x0 ^^^ (XT.ushrL x0 (30 : Int32))))]))
    refine own_Goes.step (fun tq kq => XT.lmul X0.here hx rfl (hb hby d12_9) rfl kq) ?_
    show own_Goes _ _ _ _ _ _ _ (s₁.setTop (mkF m 10 #[.val (.long x0), .second] [(.long ((x0 ^^^ (XT.ushrL x0 (30 : Int32))) * (-4658895280553007687 : Int64)))]))
    refine own_Goes.step (fun tq kq => XT.lstoreN X0.here hx rfl (hb hby d12_10) rfl (l' := #[.val (.long (own_f12_1 x0)), .second]) rfl kq) ?_
    show own_Goes _ _ _ _ _ _ _ (s₁.setTop (mkF m 11 #[.val (.long (own_f12_1 x0)), .second] []))
    refine own_Goes.step (fun tq kq => XT.lloadN X0.here hx rfl (hb hby d12_11) rfl kq) ?_
    show own_Goes _ _ _ _ _ _ _ (s₁.setTop (mkF m 12 #[.val (.long (own_f12_1 x0)), .second] [(.long (own_f12_1 x0))]))
    refine own_Goes.step (fun tq kq => XT.lloadN X0.here hx rfl (hb hby d12_12) rfl kq) ?_
    show own_Goes _ _ _ _ _ _ _ (s₁.setTop (mkF m 13 #[.val (.long (own_f12_1 x0)), .second] [(.long (own_f12_1 x0)), (.long (own_f12_1 x0))]))
    refine own_Goes.step (fun tq kq => XT.bipushV X0.here hx rfl (27 : Int32) (hb hby d12_13) (by decide) kq) ?_
    show own_Goes _ _ _ _ _ _ _ (s₁.setTop (mkF m 15 #[.val (.long (own_f12_1 x0)), .second] [(.int (27 : Int32)), (.long (own_f12_1 x0)), (.long (own_f12_1 x0))]))
    refine own_Goes.step (fun tq kq => XT.lushr X0.here hx rfl (hb hby d12_15) rfl kq) ?_
    show own_Goes _ _ _ _ _ _ _ (s₁.setTop (mkF m 16 #[.val (.long (own_f12_1 x0)), .second] [(.long (XT.ushrL (own_f12_1 x0) (27 : Int32))), (.long (own_f12_1 x0))]))
    refine own_Goes.step (fun tq kq => XT.lxor X0.here hx rfl (hb hby d12_16) rfl kq) ?_
    show own_Goes _ _ _ _ _ _ _ (s₁.setTop (mkF m 17 #[.val (.long (own_f12_1 x0)), .second] [(.long ((own_f12_1 x0) ^^^ (XT.ushrL (own_f12_1 x0) (27 : Int32))))]))
    refine own_Goes.step (fun tq kq => X0.ldc2J hx hown (mvT hZ (own_at hw 88 rfl)) rfl (hb hby d12_17) kq) ?_
    show own_Goes _ _ _ _ _ _ _ (s₁.setTop (mkF m 20 #[.val (.long (own_f12_1 x0)), .second] [(.long (-7723592293110705685 : Int64)), (.long ((own_f12_1 x0) ^^^ (XT.ushrL (own_f12_1 x0) (27 : Int32))))]))
    refine own_Goes.step (fun tq kq => XT.lmul X0.here hx rfl (hb hby d12_20) rfl kq) ?_
    show own_Goes _ _ _ _ _ _ _ (s₁.setTop (mkF m 21 #[.val (.long (own_f12_1 x0)), .second] [(.long (((own_f12_1 x0) ^^^ (XT.ushrL (own_f12_1 x0) (27 : Int32))) * (-7723592293110705685 : Int64)))]))
    refine own_Goes.step (fun tq kq => XT.lstoreN X0.here hx rfl (hb hby d12_21) rfl (l' := #[.val (.long (own_f12_2 x0)), .second]) rfl kq) ?_
    show own_Goes _ _ _ _ _ _ _ (s₁.setTop (mkF m 22 #[.val (.long (own_f12_2 x0)), .second] []))
    refine own_Goes.step (fun tq kq => XT.lloadN X0.here hx rfl (hb hby d12_22) rfl kq) ?_
    show own_Goes _ _ _ _ _ _ _ (s₁.setTop (mkF m 23 #[.val (.long (own_f12_2 x0)), .second] [(.long (own_f12_2 x0))]))
    refine own_Goes.step (fun tq kq => XT.lloadN X0.here hx rfl (hb hby d12_23) rfl kq) ?_
    show own_Goes _ _ _ _ _ _ _ (s₁.setTop (mkF m 24 #[.val (.long (own_f12_2 x0)), .second] [(.long (own_f12_2 x0)), (.long (own_f12_2 x0))]))
    refine own_Goes.step (fun tq kq => XT.bipushV X0.here hx rfl (31 : Int32) (hb hby d12_24) (by decide) kq) ?_
    show own_Goes _ _ _ _ _ _ _ (s₁.setTop (mkF m 26 #[.val (.long (own_f12_2 x0)), .second] [(.int (31 : Int32)), (.long (own_f12_2 x0)), (.long (own_f12_2 x0))]))
    refine own_Goes.step (fun tq kq => XT.lushr X0.here hx rfl (hb hby d12_26) rfl kq) ?_
    show own_Goes _ _ _ _ _ _ _ (s₁.setTop (mkF m 27 #[.val (.long (own_f12_2 x0)), .second] [(.long (XT.ushrL (own_f12_2 x0) (31 : Int32))), (.long (own_f12_2 x0))]))
    refine own_Goes.step (fun tq kq => XT.lxor X0.here hx rfl (hb hby d12_27) rfl kq) ?_
    show own_Goes _ _ _ _ _ _ _ (s₁.setTop (mkF m 28 #[.val (.long (own_f12_2 x0)), .second] [(.long ((own_f12_2 x0) ^^^ (XT.ushrL (own_f12_2 x0) (31 : Int32))))]))
    exact own_endJ X0 hx Bd.notSynchronized Bd.returns (hb hby d12_28) ⟨(congrArg (fun z => some (Value.long z)) (show ((own_f12_2 x0) ^^^ (XT.ushrL (own_f12_2 x0) (31 : Int32))) = own_f12 x0 from by simp only [own_f12])), rfl, e0⟩ (by decide) (by decide)
  obtain ⟨t2, o2, q1, q2, q3, q4⟩ := hgo
  exact ⟨t2, o2, castTop (ef_12 m x0) q1, q2, q3, q4⟩
def own_h (key : Int64) : Nat := ((own_f12 key).toInt32 &&& (15 : Int32)).toInt.toNat
theorem own_hb (key : Int64) : ((own_f12 key).toInt32 &&& (15 : Int32)).toInt = (own_h key : Nat) ∧ own_h key < 16 := by
  have m : ((own_f12 key).toInt32 &&& (15 : Int32)).toInt = (own_f12 key).toInt32.toInt % 2 ^ 4 := Jvm.Kit.i32_mask _ _ (k := 4) (by decide) (by decide)
  unfold own_h
  omega
def own_sl (K : Nat → Int64) (S : Nat → Int32) (key : Int64) : Nat → Nat → Option Nat
  | 0, _ => none
  | k + 1, a => if S a = (0 : Int32) then some a else if K (own_q (S a)) = key then some a else own_sl K S key k ((a + 1) % 16)
theorem own_sl_succ (K : Nat → Int64) (S : Nat → Int32) (key : Int64) (k a : Nat) : own_sl K S key (k + 1) a = if S a = (0 : Int32) then some a else if K (own_q (S a)) = key then some a else own_sl K S key k ((a + 1) % 16) := rfl
def own_set (S : Nat → Int32) (t : Nat) (v : Int32) : Nat → Int32 := fun j => if j = t then v else S j
def own_setJ (K : Nat → Int64) (t : Nat) (v : Int64) : Nat → Int64 := fun j => if j = t then v else K j
def own_ins (K : Nat → Int64) (σ : (Nat → Int32) × Nat × Int32) (p : Nat) : Option ((Nat → Int32) × Nat × Int32) :=
  (own_sl K σ.1 (K p) 16 (own_h (K p))).map fun t => if σ.1 t = (0 : Int32) then (own_set σ.1 t (Int32.ofNat (p + 1)), σ.2.1 + 1, Int32.ofNat t) else (σ.1, σ.2.1, (-1 : Int32))
def own_bld (K : Nat → Int64) (la : Int32) : Nat → Option ((Nat → Int32) × Nat × Int32)
  | 0 => some (fun _ => 0, 0, la)
  | k + 1 => (own_bld K la k).bind fun σ => own_ins K σ k
theorem d11_0 : decode prog_67_method_11_code 0 = .ok (.aload_n 1, 1) := by decide +kernel
theorem d11_1 : decode prog_67_method_11_code 1 = .ok (.arraylength, 1) := by decide +kernel
theorem d11_2 : decode prog_67_method_11_code 2 = .ok (.iconst 1, 1) := by decide +kernel
theorem d11_3 : decode prog_67_method_11_code 3 = .ok (.isub, 1) := by decide +kernel
theorem d11_4 : decode prog_67_method_11_code 4 = .ok (.istore 4, 2) := by decide +kernel
theorem d11_6 : decode prog_67_method_11_code 6 = .ok (.lload_n 2, 1) := by decide +kernel
theorem d11_7 : decode prog_67_method_11_code 7 = .ok (.invokestatic 87, 3) := by decide +kernel
theorem d11_10 : decode prog_67_method_11_code 10 = .ok (.l2i, 1) := by decide +kernel
theorem d11_11 : decode prog_67_method_11_code 11 = .ok (.iload 4, 2) := by decide +kernel
theorem d11_13 : decode prog_67_method_11_code 13 = .ok (.iand, 1) := by decide +kernel
theorem d11_14 : decode prog_67_method_11_code 14 = .ok (.istore 5, 2) := by decide +kernel
theorem d11_16 : decode prog_67_method_11_code 16 = .ok (.aload_n 1, 1) := by decide +kernel
theorem d11_17 : decode prog_67_method_11_code 17 = .ok (.iload 5, 2) := by decide +kernel
theorem d11_19 : decode prog_67_method_11_code 19 = .ok (.iaload, 1) := by decide +kernel
theorem d11_20 : decode prog_67_method_11_code 20 = .ok (.ifCond .eq 31, 3) := by decide +kernel
theorem d11_23 : decode prog_67_method_11_code 23 = .ok (.aload_n 0, 1) := by decide +kernel
theorem d11_24 : decode prog_67_method_11_code 24 = .ok (.getfield 9, 3) := by decide +kernel
theorem d11_27 : decode prog_67_method_11_code 27 = .ok (.aload_n 1, 1) := by decide +kernel
theorem d11_28 : decode prog_67_method_11_code 28 = .ok (.iload 5, 2) := by decide +kernel
theorem d11_30 : decode prog_67_method_11_code 30 = .ok (.iaload, 1) := by decide +kernel
theorem d11_31 : decode prog_67_method_11_code 31 = .ok (.iconst 1, 1) := by decide +kernel
theorem d11_32 : decode prog_67_method_11_code 32 = .ok (.isub, 1) := by decide +kernel
theorem d11_33 : decode prog_67_method_11_code 33 = .ok (.laload, 1) := by decide +kernel
theorem d11_34 : decode prog_67_method_11_code 34 = .ok (.lload_n 2, 1) := by decide +kernel
theorem d11_35 : decode prog_67_method_11_code 35 = .ok (.lcmp, 1) := by decide +kernel
theorem d11_36 : decode prog_67_method_11_code 36 = .ok (.ifCond .eq 15, 3) := by decide +kernel
theorem d11_39 : decode prog_67_method_11_code 39 = .ok (.iload 5, 2) := by decide +kernel
theorem d11_41 : decode prog_67_method_11_code 41 = .ok (.iconst 1, 1) := by decide +kernel
theorem d11_42 : decode prog_67_method_11_code 42 = .ok (.iadd, 1) := by decide +kernel
theorem d11_43 : decode prog_67_method_11_code 43 = .ok (.iload 4, 2) := by decide +kernel
theorem d11_45 : decode prog_67_method_11_code 45 = .ok (.iand, 1) := by decide +kernel
theorem d11_46 : decode prog_67_method_11_code 46 = .ok (.istore 5, 2) := by decide +kernel
theorem d11_48 : decode prog_67_method_11_code 48 = .ok (.goto (-32), 3) := by decide +kernel
theorem d11_51 : decode prog_67_method_11_code 51 = .ok (.iload 5, 2) := by decide +kernel
theorem d11_53 : decode prog_67_method_11_code 53 = .ok (.ireturn, 1) := by decide +kernel
theorem pn_11 : plainName "com/example/strati/strati/sim/WriteBuffer" = true := by first | (simp [plainName, overriddenIn]; done) | decide +kernel
theorem pd_11 : parseMethodDescriptor "([IJ)I" = some ⟨[(.array .int), .long], (some .int)⟩ := by decide +kernel
theorem ef_11 (m : MethodId) (x0 : Addr) (x1 : Addr) (x2 : Int64) : entryFrame m #[(.ref x0), (.ref x1), (.long x2)] 6 = mkF m 0 #[.val (.ref x0), .val (.ref x1), .val (.long x2), .second, .unset, .unset] [] := by first | (simp [entryFrame, mkF, argsToLocals, Value.category]; done) | rfl
def own_F11 (Z : State) (x0 : Addr) (x1 : Addr) (x2 : Int64) (kA : Addr) (K : Nat → Int64) (S : Nat → Int32) (tt : Nat) (n0 : Nat) (h0 : Heap) (v : Option Value) (h : Heap) (L : List Loc) : Prop := v = some (.int (Int32.ofNat tt)) ∧ L = [] ∧ h = h0
set_option maxRecDepth 65536 in
set_option maxHeartbeats 40000000 in
theorem own_m11 (l : Launch) (Z : State) (a0 : Array Value) (hw : ∀ d ∈ tables_1, d.before a0 Z = true) (ws : List Jvm.Cond) (x0 : Addr) (x1 : Addr) (x2 : Int64) (kA : Addr) (K : Nat → Int64) (S : Nat → Int32) (tt : Nat) (n0 : Nat) (h0 : Heap)  (PK : Fld Z h0 x0 "com/example/strati/strati/sim/WriteBuffer" "keys" "[J" (.ref kA)) (RK : own_Ar Z h0 kA .long 16 (fun uu => .long (K uu))) (RI : own_Ar Z h0 x1 .int 16 (fun uu => .int (S uu))) (hS : own_OK S) (hm : own_sl K S x2 16 (own_h x2) = some tt) :
    MetFree l (⟨"com/example/strati/strati/sim/WriteBuffer", "slot", "([IJ)I"⟩ : MethodName) (head1 (Jvm.Cond.code (⟨"com/example/strati/strati/sim/WriteBuffer", "slot", "([IJ)I"⟩ : MethodName) prog_67_method_11_code 6 (some .int) :: ws) ({ frames := 1, cells := 0, slots := 0, locals := 13 } : Room)) (fun a U => a = #[(.ref x0), (.ref x1), (.long x2)] ∧ Z.Warmed39 U.vm ∧ U.heap = h0) (fun _ _ _ _ _ => True) (fun _ U o U' => ∃ v L, o = .returned v ∧ own_F11 Z x0 x1 x2 kA K S tt n0 h0 v U'.heap L ∧ FrameEnd U o U' L ({ frames := 1, cells := 0, slots := 0, locals := 13 } : Room).cells ({ frames := 1, cells := 0, slots := 0, locals := 13 } : Room).slots) := by
  refine MetFree.of_bodySF (plainFor_of_name pn_11) hisR ?_
  intro p e s m args below meth c s₁ Bd hml0 hP hK
  obtain ⟨rfl, hZ, hh⟩ := hP
  have hx := Bd.exec
  have hby := Bd.bytes
  have hml : c.maxLocals = 6 := hml0
  have hown : s.vm.findClass "com/example/strati/strati/sim/WriteBuffer" = some m.cls := findClass_of_methodNamed Bd.named
  have hnm := (name_of_methodNamed Bd.named Bd.method).1
  have X0 : Stand p l e ({ frames := 1, cells := 0, slots := 0, locals := 13 } : Room) s m #[(.ref x0), (.ref x1), (.long x2)] below meth c s₁ [] 0 0 := Stand.of_body Bd
  have e0 : s₁.heap = h0 := by rw [← hh, Bd.state]; rfl
  have N0 := Fr.nil n0
  have K0 : Keep h0 h0 [] := Keep.refl h0 []
  have hgo : own_Goes p e below s (own_F11 Z x0 x1 x2 kA K S tt n0 h0) 0 0 (s₁.setTop (mkF m 0 #[.val (.ref x0), .val (.ref x1), .val (.long x2), .second, .unset, .unset] [])) := by
    refine own_Goes.step (fun tq kq => XS.aloadN X0.here hx rfl (hb hby d11_0) rfl rfl kq) ?_
    show own_Goes _ _ _ _ _ _ _ (s₁.setTop (mkF m 1 #[.val (.ref x0), .val (.ref x1), .val (.long x2), .second, .unset, .unset] [(.ref x1)]))
    refine own_Goes.step (own_alen X0 hx hZ e0 RI (z := (16 : Int32)) (by decide) (g := (mkF m 1 #[.val (.ref x0), .val (.ref x1), .val (.long x2), .second, .unset, .unset] [(.ref x1)])) rfl rfl (hb hby d11_1)) ?_
    show own_Goes _ _ _ _ _ _ _ (s₁.setTop (mkF m 2 #[.val (.ref x0), .val (.ref x1), .val (.long x2), .second, .unset, .unset] [(.int (16 : Int32))]))
    refine own_Goes.step (fun tq kq => XT.iconstV X0.here hx rfl (1 : Int32) (hb hby d11_2) (by decide) kq) ?_
    show own_Goes _ _ _ _ _ _ _ (s₁.setTop (mkF m 3 #[.val (.ref x0), .val (.ref x1), .val (.long x2), .second, .unset, .unset] [(.int (1 : Int32)), (.int (16 : Int32))]))
    refine own_Goes.step (fun tq kq => XS.isub X0.here hx rfl (hb hby d11_3) rfl kq) ?_
    show own_Goes _ _ _ _ _ _ _ (s₁.setTop (mkF m 4 #[.val (.ref x0), .val (.ref x1), .val (.long x2), .second, .unset, .unset] [(.int (15 : Int32))]))
    refine own_Goes.step (fun tq kq => XS.istore X0.here hx rfl (hb hby d11_4) rfl (l' := #[.val (.ref x0), .val (.ref x1), .val (.long x2), .second, .val (.int (15 : Int32)), .unset]) rfl kq) ?_
    show own_Goes _ _ _ _ _ _ _ (s₁.setTop (mkF m 6 #[.val (.ref x0), .val (.ref x1), .val (.long x2), .second, .val (.int (15 : Int32)), .unset] []))
    refine own_Goes.step (fun tq kq => XT.lloadN X0.here hx rfl (hb hby d11_6) rfl kq) ?_
    show own_Goes _ _ _ _ _ _ _ (s₁.setTop (mkF m 7 #[.val (.ref x0), .val (.ref x1), .val (.long x2), .second, .val (.int (15 : Int32)), .unset] [(.long x2)]))
    obtain ⟨w2, T2, L2, q2, Y2, st2⟩ := own_stat X0 hx hZ e0 hown (own_at hw 83 rfl) (own_at hw 84 rfl) (own_at hw 85 rfl) (own_at hw 86 rfl) (by decide) (own_m12 l Z a0 hw [] x2 h0 ) (by decide) (W := 0) (by decide) (by decide) (by decide) (g := (mkF m 7 #[.val (.ref x0), .val (.ref x1), .val (.long x2), .second, .val (.int (15 : Int32)), .unset] [(.long x2)])) rfl (by rw [hml]; rfl) (argsL := [(.long x2)]) (rest := []) (lenOf pd_12 rfl) rfl (by show 2 * 0 + _ ≤ _; exact Nat.le_of_eq rfl) (hb hby d11_7)
    obtain ⟨e2, X2⟩ := own_clean q2 Y2 rfl rfl
    obtain ⟨rfl, -, -⟩ := q2
    refine own_Goes.step st2 ?_
    show own_Goes _ _ _ _ _ _ _ (T2.setTop (mkF m 10 #[.val (.ref x0), .val (.ref x1), .val (.long x2), .second, .val (.int (15 : Int32)), .unset] [(.long (own_f12 x2))]))
    refine own_Goes.step (fun tq kq => XT.l2i X2.here hx rfl (hb hby d11_10) rfl kq) ?_
    show own_Goes _ _ _ _ _ _ _ (T2.setTop (mkF m 11 #[.val (.ref x0), .val (.ref x1), .val (.long x2), .second, .val (.int (15 : Int32)), .unset] [(.int ((own_f12 x2).toInt32))]))
    refine own_Goes.step (fun tq kq => XS.iload X2.here hx rfl (hb hby d11_11) rfl kq) ?_
    show own_Goes _ _ _ _ _ _ _ (T2.setTop (mkF m 13 #[.val (.ref x0), .val (.ref x1), .val (.long x2), .second, .val (.int (15 : Int32)), .unset] [(.int (15 : Int32)), (.int ((own_f12 x2).toInt32))]))
    refine own_Goes.step (fun tq kq => XS.iand X2.here hx rfl (hb hby d11_13) rfl kq) ?_
    show own_Goes _ _ _ _ _ _ _ (T2.setTop (mkF m 14 #[.val (.ref x0), .val (.ref x1), .val (.long x2), .second, .val (.int (15 : Int32)), .unset] [(.int (((own_f12 x2).toInt32) &&& (15 : Int32)))]))
    refine own_Goes.step (fun tq kq => XS.istore X2.here hx rfl (hb hby d11_14) rfl (l' := #[.val (.ref x0), .val (.ref x1), .val (.long x2), .second, .val (.int (15 : Int32)), .val (.int (((own_f12 x2).toInt32) &&& (15 : Int32)))]) rfl kq) ?_
    show own_Goes _ _ _ _ _ _ _ (T2.setTop (mkF m 16 #[.val (.ref x0), .val (.ref x1), .val (.long x2), .second, .val (.int (15 : Int32)), .val (.int (((own_f12 x2).toInt32) &&& (15 : Int32)))] []))
    have loop : ∀ (fu a : Nat) (iv : Int32) (T : State) (X : Stand p l e ({ frames := 1, cells := 0, slots := 0, locals := 13 } : Room) s m #[(.ref x0), (.ref x1), (.long x2)] below meth c T [] 0 0) (eT : T.heap = h0), iv.toInt = (a : Nat) → a < 16 → own_sl K S x2 fu a = some tt → own_Goes p e below s (own_F11 Z x0 x1 x2 kA K S tt n0 h0) 0 0 (T.setTop (mkF m 16 #[.val (.ref x0), .val (.ref x1), .val (.long x2), .second, .val (.int (15 : Int32)), .val (.int iv)] [])) := by
      intro fu
      induction fu with
      | zero => intro a iv T X eT hi ha hm; cases hm
      | succ fu ih =>
        intro a iv T X eT hi ha hm
        rw [own_sl_succ] at hm
        refine own_Goes.step (fun tq kq => XS.aloadN X.here hx rfl (hb hby d11_16) rfl rfl kq) ?_
        show own_Goes _ _ _ _ _ _ _ (T.setTop (mkF m 17 #[.val (.ref x0), .val (.ref x1), .val (.long x2), .second, .val (.int (15 : Int32)), .val (.int iv)] [(.ref x1)]))
        refine own_Goes.step (fun tq kq => XS.iload X.here hx rfl (hb hby d11_17) rfl kq) ?_
        show own_Goes _ _ _ _ _ _ _ (T.setTop (mkF m 19 #[.val (.ref x0), .val (.ref x1), .val (.long x2), .second, .val (.int (15 : Int32)), .val (.int iv)] [(.int iv), (.ref x1)]))
        refine own_Goes.step (own_iald X hx hZ eT RI (i := a) hi ha (v := (.int (S a))) rfl (g := (mkF m 19 #[.val (.ref x0), .val (.ref x1), .val (.long x2), .second, .val (.int (15 : Int32)), .val (.int iv)] [(.int iv), (.ref x1)])) rfl rfl (hb hby d11_19)) ?_
        show own_Goes _ _ _ _ _ _ _ (T.setTop (mkF m 20 #[.val (.ref x0), .val (.ref x1), .val (.long x2), .second, .val (.int (15 : Int32)), .val (.int iv)] [(.int (S a))]))
        by_cases hc4 : (S a) = (0 : Int32)
        · refine own_Goes.step (fun tq kq => XS.ifYes X.here hx rfl (pc0 := 20) (pc' := 51) rfl (hb hby d11_20) rfl (XT.i0_eq_t hc4) (by decide) (by decide) kq) ?_
          show own_Goes _ _ _ _ _ _ _ (T.setTop (mkF m 51 #[.val (.ref x0), .val (.ref x1), .val (.long x2), .second, .val (.int (15 : Int32)), .val (.int iv)] []))
          refine own_Goes.step (fun tq kq => XS.iload X.here hx rfl (hb hby d11_51) rfl kq) ?_
          show own_Goes _ _ _ _ _ _ _ (T.setTop (mkF m 53 #[.val (.ref x0), .val (.ref x1), .val (.long x2), .second, .val (.int (15 : Int32)), .val (.int iv)] [(.int iv)]))
          refine own_endI X hx Bd.notSynchronized Bd.returns (hb hby d11_53) ?_ (by decide) (by decide)
          show own_F11 Z x0 x1 x2 kA K S tt n0 h0 _ T.heap _
          rw [eT]
          rw [if_pos hc4] at hm
          cases hm
          exact ⟨congrArg (fun z => some (Value.int z)) (own_self hi).symm, rfl, rfl⟩
        · refine own_Goes.step (fun tq kq => XS.ifNo X.here hx rfl (hb hby d11_20) rfl (XT.i0_eq_f hc4) kq) ?_
          show own_Goes _ _ _ _ _ _ _ (T.setTop (mkF m 23 #[.val (.ref x0), .val (.ref x1), .val (.long x2), .second, .val (.int (15 : Int32)), .val (.int iv)] []))
          refine own_Goes.step (fun tq kq => XS.aloadN X.here hx rfl (hb hby d11_23) rfl rfl kq) ?_
          show own_Goes _ _ _ _ _ _ _ (T.setTop (mkF m 24 #[.val (.ref x0), .val (.ref x1), .val (.long x2), .second, .val (.int (15 : Int32)), .val (.int iv)] [(.ref x0)]))
          obtain ⟨T5, X5, e5, st5⟩ := getF X hx hZ hown (host := "") (Or.inl (own_at hw 27 rfl)) Via.refl eT PK (g := (mkF m 24 #[.val (.ref x0), .val (.ref x1), .val (.long x2), .second, .val (.int (15 : Int32)), .val (.int iv)] [(.ref x0)])) rfl rfl (hb hby d11_24)
          refine own_Goes.step st5 ?_
          show own_Goes _ _ _ _ _ _ _ (T5.setTop (mkF m 27 #[.val (.ref x0), .val (.ref x1), .val (.long x2), .second, .val (.int (15 : Int32)), .val (.int iv)] [(.ref kA)]))
          refine own_Goes.step (fun tq kq => XS.aloadN X5.here hx rfl (hb hby d11_27) rfl rfl kq) ?_
          show own_Goes _ _ _ _ _ _ _ (T5.setTop (mkF m 28 #[.val (.ref x0), .val (.ref x1), .val (.long x2), .second, .val (.int (15 : Int32)), .val (.int iv)] [(.ref x1), (.ref kA)]))
          refine own_Goes.step (fun tq kq => XS.iload X5.here hx rfl (hb hby d11_28) rfl kq) ?_
          show own_Goes _ _ _ _ _ _ _ (T5.setTop (mkF m 30 #[.val (.ref x0), .val (.ref x1), .val (.long x2), .second, .val (.int (15 : Int32)), .val (.int iv)] [(.int iv), (.ref x1), (.ref kA)]))
          refine own_Goes.step (own_iald X5 hx hZ e5 RI (i := a) hi ha (v := (.int (S a))) rfl (g := (mkF m 30 #[.val (.ref x0), .val (.ref x1), .val (.long x2), .second, .val (.int (15 : Int32)), .val (.int iv)] [(.int iv), (.ref x1), (.ref kA)])) rfl rfl (hb hby d11_30)) ?_
          show own_Goes _ _ _ _ _ _ _ (T5.setTop (mkF m 31 #[.val (.ref x0), .val (.ref x1), .val (.long x2), .second, .val (.int (15 : Int32)), .val (.int iv)] [(.int (S a)), (.ref kA)]))
          refine own_Goes.step (fun tq kq => XT.iconstV X5.here hx rfl (1 : Int32) (hb hby d11_31) (by decide) kq) ?_
          show own_Goes _ _ _ _ _ _ _ (T5.setTop (mkF m 32 #[.val (.ref x0), .val (.ref x1), .val (.long x2), .second, .val (.int (15 : Int32)), .val (.int iv)] [(.int (1 : Int32)), (.int (S a)), (.ref kA)]))
          refine own_Goes.step (fun tq kq => XS.isub X5.here hx rfl (hb hby d11_32) rfl kq) ?_
          show own_Goes _ _ _ _ _ _ _ (T5.setTop (mkF m 33 #[.val (.ref x0), .val (.ref x1), .val (.long x2), .second, .val (.int (15 : Int32)), .val (.int iv)] [(.int ((S a) - (1 : Int32))), (.ref kA)]))
          refine own_Goes.step (own_lald X5 hx hZ e5 RK (i := own_q (S a)) (own_qe hS ha hc4).1 (own_qe hS ha hc4).2 (v := (.long (K (own_q (S a))))) rfl (g := (mkF m 33 #[.val (.ref x0), .val (.ref x1), .val (.long x2), .second, .val (.int (15 : Int32)), .val (.int iv)] [(.int ((S a) - (1 : Int32))), (.ref kA)])) rfl rfl (hb hby d11_33)) ?_
          show own_Goes _ _ _ _ _ _ _ (T5.setTop (mkF m 34 #[.val (.ref x0), .val (.ref x1), .val (.long x2), .second, .val (.int (15 : Int32)), .val (.int iv)] [(.long (K (own_q (S a))))]))
          refine own_Goes.step (fun tq kq => XT.lloadN X5.here hx rfl (hb hby d11_34) rfl kq) ?_
          show own_Goes _ _ _ _ _ _ _ (T5.setTop (mkF m 35 #[.val (.ref x0), .val (.ref x1), .val (.long x2), .second, .val (.int (15 : Int32)), .val (.int iv)] [(.long x2), (.long (K (own_q (S a))))]))
          refine own_Goes.step (fun tq kq => XT.lcmp X5.here hx rfl (hb hby d11_35) rfl kq) ?_
          show own_Goes _ _ _ _ _ _ _ (T5.setTop (mkF m 36 #[.val (.ref x0), .val (.ref x1), .val (.long x2), .second, .val (.int (15 : Int32)), .val (.int iv)] [(.int (XT.cmpL (K (own_q (S a))) x2))]))
          by_cases hc8 : (K (own_q (S a))) = x2
          · refine own_Goes.step (fun tq kq => XS.ifYes X5.here hx rfl (pc0 := 36) (pc' := 51) rfl (hb hby d11_36) rfl (XT.ll_eq_t hc8) (by decide) (by decide) kq) ?_
            show own_Goes _ _ _ _ _ _ _ (T5.setTop (mkF m 51 #[.val (.ref x0), .val (.ref x1), .val (.long x2), .second, .val (.int (15 : Int32)), .val (.int iv)] []))
            refine own_Goes.step (fun tq kq => XS.iload X5.here hx rfl (hb hby d11_51) rfl kq) ?_
            show own_Goes _ _ _ _ _ _ _ (T5.setTop (mkF m 53 #[.val (.ref x0), .val (.ref x1), .val (.long x2), .second, .val (.int (15 : Int32)), .val (.int iv)] [(.int iv)]))
            refine own_endI X5 hx Bd.notSynchronized Bd.returns (hb hby d11_53) ?_ (by decide) (by decide)
            show own_F11 Z x0 x1 x2 kA K S tt n0 h0 _ T5.heap _
            rw [e5]
            rw [if_neg hc4, if_pos hc8] at hm
            cases hm
            exact ⟨congrArg (fun z => some (Value.int z)) (own_self hi).symm, rfl, rfl⟩
          · refine own_Goes.step (fun tq kq => XS.ifNo X5.here hx rfl (hb hby d11_36) rfl (XT.ll_eq_f hc8) kq) ?_
            show own_Goes _ _ _ _ _ _ _ (T5.setTop (mkF m 39 #[.val (.ref x0), .val (.ref x1), .val (.long x2), .second, .val (.int (15 : Int32)), .val (.int iv)] []))
            refine own_Goes.step (fun tq kq => XS.iload X5.here hx rfl (hb hby d11_39) rfl kq) ?_
            show own_Goes _ _ _ _ _ _ _ (T5.setTop (mkF m 41 #[.val (.ref x0), .val (.ref x1), .val (.long x2), .second, .val (.int (15 : Int32)), .val (.int iv)] [(.int iv)]))
            refine own_Goes.step (fun tq kq => XT.iconstV X5.here hx rfl (1 : Int32) (hb hby d11_41) (by decide) kq) ?_
            show own_Goes _ _ _ _ _ _ _ (T5.setTop (mkF m 42 #[.val (.ref x0), .val (.ref x1), .val (.long x2), .second, .val (.int (15 : Int32)), .val (.int iv)] [(.int (1 : Int32)), (.int iv)]))
            refine own_Goes.step (fun tq kq => XS.iadd X5.here hx rfl (hb hby d11_42) rfl kq) ?_
            show own_Goes _ _ _ _ _ _ _ (T5.setTop (mkF m 43 #[.val (.ref x0), .val (.ref x1), .val (.long x2), .second, .val (.int (15 : Int32)), .val (.int iv)] [(.int (iv + (1 : Int32)))]))
            refine own_Goes.step (fun tq kq => XS.iload X5.here hx rfl (hb hby d11_43) rfl kq) ?_
            show own_Goes _ _ _ _ _ _ _ (T5.setTop (mkF m 45 #[.val (.ref x0), .val (.ref x1), .val (.long x2), .second, .val (.int (15 : Int32)), .val (.int iv)] [(.int (15 : Int32)), (.int (iv + (1 : Int32)))]))
            refine own_Goes.step (fun tq kq => XS.iand X5.here hx rfl (hb hby d11_45) rfl kq) ?_
            show own_Goes _ _ _ _ _ _ _ (T5.setTop (mkF m 46 #[.val (.ref x0), .val (.ref x1), .val (.long x2), .second, .val (.int (15 : Int32)), .val (.int iv)] [(.int ((iv + (1 : Int32)) &&& (15 : Int32)))]))
            refine own_Goes.step (fun tq kq => XS.istore X5.here hx rfl (hb hby d11_46) rfl (l' := #[.val (.ref x0), .val (.ref x1), .val (.long x2), .second, .val (.int (15 : Int32)), .val (.int ((iv + (1 : Int32)) &&& (15 : Int32)))]) rfl kq) ?_
            show own_Goes _ _ _ _ _ _ _ (T5.setTop (mkF m 48 #[.val (.ref x0), .val (.ref x1), .val (.long x2), .second, .val (.int (15 : Int32)), .val (.int ((iv + (1 : Int32)) &&& (15 : Int32)))] []))
            refine own_Goes.step (fun tq kq => XS.goto X5.here hx rfl (pc0 := 48) (pc' := 16) rfl (hb hby d11_48) (by decide) (by decide) kq) ?_
            show own_Goes _ _ _ _ _ _ _ (T5.setTop (mkF m 16 #[.val (.ref x0), .val (.ref x1), .val (.long x2), .second, .val (.int (15 : Int32)), .val (.int ((iv + (1 : Int32)) &&& (15 : Int32)))] []))
            exact ih ((a + 1) % 16) _ T5 X5 e5 (own_nxt hi ha) (Nat.mod_lt _ (by decide)) (by rw [if_neg hc4, if_neg hc8] at hm; exact hm)
    exact loop 16 (own_h x2) _ T2 X2 e2 (own_hb x2).1 (own_hb x2).2 hm
  obtain ⟨t2, o2, q1, q2, q3, q4⟩ := hgo
  exact ⟨t2, o2, castTop (ef_11 m x0 x1 x2) q1, q2, q3, q4⟩
/-! the hash index, in plain words -/
def own_bi (b : Bool) : Int32 := if b = true then 1 else 0
def own_mem (K : Nat → Int64) : Nat → Int64 → Bool
  | 0, _ => false
  | k + 1, key => own_mem K k key || decide (K k = key)
def own_OKn (S : Nat → Int32) (n : Nat) : Prop := ∀ i, S i = 0 ∨ (1 ≤ (S i).toInt ∧ (S i).toInt ≤ n)
theorem own_OKn.ok {S : Nat → Int32} {n : Nat} (h : own_OKn S n) (hn : n ≤ 16) : own_OK S := fun i _ => (h i).imp id fun q => ⟨q.1, by omega⟩
theorem own_OKn.mono {S : Nat → Int32} {n m : Nat} (h : own_OKn S n) (hn : n ≤ m) : own_OKn S m := fun i => (h i).imp id fun q => ⟨q.1, by omega⟩
theorem own_q_lt {S : Nat → Int32} {n : Nat} (h : own_OKn S n) {a : Nat} (ha : ¬ S a = 0) : own_q (S a) < n := by
  have b := (h a).resolve_left ha
  unfold own_q
  omega
theorem own_sl_lt (K : Nat → Int64) (S : Nat → Int32) (key : Int64) : ∀ (k a t : Nat), a < 16 → own_sl K S key k a = some t → t < 16 := by
  intro k
  induction k with
  | zero => intro a t ha h; cases h
  | succ k ih =>
    intro a t ha h
    rw [own_sl_succ] at h
    split at h
    · cases h; exact ha
    · split at h
      · cases h; exact ha
      · exact ih _ _ (Nat.mod_lt _ (by decide)) h
/-- where it stops: an empty slot, or the key's own -/
theorem own_sl_stop (K : Nat → Int64) (S : Nat → Int32) (key : Int64) : ∀ (k a t : Nat), own_sl K S key k a = some t → S t = 0 ∨ K (own_q (S t)) = key := by
  intro k
  induction k with
  | zero => intro a t h; cases h
  | succ k ih =>
    intro a t h
    rw [own_sl_succ] at h
    split at h
    · next q => cases h; exact Or.inl q
    · split at h
      · next q => cases h; exact Or.inr q
      · exact ih _ _ h
theorem own_sl_congr {K K' : Nat → Int64} {S : Nat → Int32} {n : Nat} (hS : own_OKn S n) (hK : ∀ j, j < n → K j = K' j) (key : Int64) : ∀ (k a : Nat), own_sl K S key k a = own_sl K' S key k a := by
  intro k
  induction k with
  | zero => intro a; rfl
  | succ k ih =>
    intro a
    rw [own_sl_succ, own_sl_succ, ih]
    by_cases q : S a = 0
    · rw [if_pos q, if_pos q]
    · rw [if_neg q, if_neg q, hK _ (own_q_lt hS q)]
theorem own_sl_keep (K : Nat → Int64) (S : Nat → Int32) (key : Int64) (s : Nat) (v : Int32) (hs : S s = 0) : ∀ (k a t : Nat), own_sl K S key k a = some t → ¬ S t = 0 → own_sl K (own_set S s v) key k a = some t := by
  intro k
  induction k with
  | zero => intro a t h; cases h
  | succ k ih =>
    intro a t h ht
    rw [own_sl_succ] at h ⊢
    by_cases q : S a = 0
    · rw [if_pos q] at h; cases h; exact absurd q ht
    · rw [if_neg q] at h
      have hne : ¬ a = s := fun e => q (by rw [e]; exact hs)
      have e : own_set S s v a = S a := if_neg hne
      rw [e, if_neg q]
      by_cases r : K (own_q (S a)) = key
      · rw [if_pos r] at h ⊢; exact h
      · rw [if_neg r] at h ⊢; exact ih _ _ h ht
theorem own_sl_new (K : Nat → Int64) (S : Nat → Int32) (key : Int64) (s : Nat) (v : Int32) (hs : S s = 0) (hv : ¬ v = 0) (hk : K (own_q v) = key) : ∀ (k a : Nat), own_sl K S key k a = some s → own_sl K (own_set S s v) key k a = some s := by
  intro k
  induction k with
  | zero => intro a h; cases h
  | succ k ih =>
    intro a h
    rw [own_sl_succ] at h ⊢
    by_cases q : S a = 0
    · rw [if_pos q] at h
      cases h
      have e : own_set S s v s = v := if_pos rfl
      rw [e, if_neg hv, if_pos hk]
    · rw [if_neg q] at h
      have hne : ¬ a = s := fun e => q (by rw [e]; exact hs)
      have e : own_set S s v a = S a := if_neg hne
      rw [e, if_neg q]
      by_cases r : K (own_q (S a)) = key
      · rw [if_pos r] at h ⊢; exact h
      · rw [if_neg r] at h ⊢; exact ih _ h
/-- it runs out of turns only where every slot that it passed is taken -/
theorem own_sl_none (K : Nat → Int64) (S : Nat → Int32) (key : Int64) : ∀ (k a : Nat), a < 16 → own_sl K S key k a = none → ∀ j, j < k → ¬ S ((a + j) % 16) = 0 := by
  intro k
  induction k with
  | zero => intro a ha h j hj; omega
  | succ k ih =>
    intro a ha h j hj
    rw [own_sl_succ] at h
    by_cases q : S a = 0
    · rw [if_pos q] at h; cases h
    · rw [if_neg q] at h
      by_cases r : K (own_q (S a)) = key
      · rw [if_pos r] at h; cases h
      · rw [if_neg r] at h
        cases j with
        | zero => rw [Nat.add_zero, Nat.mod_eq_of_lt ha]; exact q
        | succ j =>
          have := ih ((a + 1) % 16) (Nat.mod_lt _ (by decide)) h j (by omega)
          have e : ((a + 1) % 16 + j) % 16 = (a + (j + 1)) % 16 := by omega
          rw [e] at this
          exact this
theorem own_sl_some (K : Nat → Int64) (S : Nat → Int32) (key : Int64) (e : Nat) (he : e < 16) (hS : S e = 0) : ∃ t, t < 16 ∧ own_sl K S key 16 (own_h key) = some t := by
  cases h : own_sl K S key 16 (own_h key) with
  | some t => exact ⟨t, own_sl_lt K S key _ _ _ (own_hb key).2 h, rfl⟩
  | none =>
    have hb := (own_hb key).2
    have q := own_sl_none K S key 16 (own_h key) hb h ((e + 16 - own_h key) % 16) (Nat.mod_lt _ (by decide))
    have e2 : (own_h key + (e + 16 - own_h key) % 16) % 16 = e := by omega
    rw [e2] at q
    exact absurd hS q
/-- what an index of the first n keys is -/
def own_Inv (K : Nat → Int64) (n : Nat) (S : Nat → Int32) (ixn : Nat) : Prop :=
  own_OKn S n ∧ ixn ≤ n ∧ (∃ ps : List Nat, ps.length ≤ n ∧ ∀ i, ¬ S i = 0 → i ∈ ps) ∧ ∀ key, own_mem K n key = true → ∃ t, own_sl K S key 16 (own_h key) = some t ∧ ¬ S t = 0
theorem own_free (ps : List Nat) (h : ps.length ≤ 3) : ∃ e, e < 16 ∧ e ∉ ps := by
  match ps, h with
  | [], _ => exact ⟨0, by decide, by simp⟩
  | [a], _ =>
    by_cases q : a = 0
    · exact ⟨1, by decide, by simp; omega⟩
    · exact ⟨0, by decide, by simp; omega⟩
  | [a, b], _ =>
    by_cases q0 : a = 0 ∨ b = 0
    · by_cases q1 : a = 1 ∨ b = 1
      · exact ⟨2, by decide, by simp; omega⟩
      · exact ⟨1, by decide, by simp; omega⟩
    · exact ⟨0, by decide, by simp; omega⟩
  | [a, b, c], _ =>
    by_cases q0 : a = 0 ∨ b = 0 ∨ c = 0
    · by_cases q1 : a = 1 ∨ b = 1 ∨ c = 1
      · by_cases q2 : a = 2 ∨ b = 2 ∨ c = 2
        · exact ⟨3, by decide, by simp; omega⟩
        · exact ⟨2, by decide, by simp; omega⟩
      · exact ⟨1, by decide, by simp; omega⟩
    · exact ⟨0, by decide, by simp; omega⟩
theorem own_Inv.find {K : Nat → Int64} {n : Nat} {S : Nat → Int32} {ixn : Nat} (I : own_Inv K n S ixn) (hn : n ≤ 3) (key : Int64) : ∃ t, t < 16 ∧ own_sl K S key 16 (own_h key) = some t := by
  obtain ⟨-, -, ⟨ps, hl, hp⟩, -⟩ := I
  obtain ⟨e, he, hm⟩ := own_free ps (by omega)
  have : S e = 0 := Decidable.byContradiction fun q => hm (hp e q)
  exact own_sl_some K S key e he this
theorem own_mem_of (K : Nat → Int64) (n j : Nat) (hj : j < n) : own_mem K n (K j) = true := by
  induction n with
  | zero => omega
  | succ n ih =>
    show (own_mem K n (K j) || decide (K n = K j)) = true
    by_cases q : j = n
    · subst q; simp
    · rw [ih (by omega)]; rfl
theorem own_Inv.says {K : Nat → Int64} {n : Nat} {S : Nat → Int32} {ixn : Nat} (I : own_Inv K n S ixn) {key : Int64} {t : Nat} (h : own_sl K S key 16 (own_h key) = some t) : ¬ S t = 0 ↔ own_mem K n key = true := by
  constructor
  · intro q
    have e := (own_sl_stop K S key _ _ _ h).resolve_left q
    rw [← e]
    exact own_mem_of K n _ (own_q_lt I.1 q)
  · intro q
    obtain ⟨t', h', hs⟩ := I.2.2.2 key q
    cases h.symm.trans h'
    exact hs
theorem own_Inv.zero (K : Nat → Int64) : own_Inv K 0 (fun _ => 0) 0 := ⟨fun _ => Or.inl rfl, Nat.le_refl _, ⟨[], Nat.le_refl _, fun i q => absurd rfl q⟩, fun key h => by cases h⟩
theorem own_ofNat_succ (n : Nat) (hn : n < 16) : ¬ Int32.ofNat (n + 1) = 0 ∧ own_q (Int32.ofNat (n + 1)) = n ∧ (Int32.ofNat (n + 1)).toInt = n + 1 := by
  have e := own_toI (n := n + 1) (by omega)
  refine ⟨fun q => ?_, ?_, by omega⟩
  · rw [q] at e
    have z : (0 : Int32).toInt = 0 := rfl
    omega
  · unfold own_q
    omega
theorem own_Inv.ins {K : Nat → Int64} {n : Nat} {S : Nat → Int32} {ixn : Nat} (I : own_Inv K n S ixn) (hn : n < 16) {t : Nat} (h : own_sl K S (K n) 16 (own_h (K n)) = some t) :
    own_Inv K (n + 1) (if S t = 0 then own_set S t (Int32.ofNat (n + 1)) else S) (if S t = 0 then ixn + 1 else ixn) := by
  obtain ⟨i1, i2, ⟨ps, i3, i4⟩, i5⟩ := I
  obtain ⟨o1, o2, o3⟩ := own_ofNat_succ n hn
  by_cases q : S t = 0
  · rw [if_pos q, if_pos q]
    refine ⟨fun i => ?_, by omega, ⟨t :: ps, by simp; omega, fun i hi => ?_⟩, fun key hk => ?_⟩
    · by_cases e : i = t
      · have : own_set S t (Int32.ofNat (n + 1)) i = Int32.ofNat (n + 1) := if_pos e
        rw [this]
        exact Or.inr ⟨by omega, by omega⟩
      · have : own_set S t (Int32.ofNat (n + 1)) i = S i := if_neg e
        rw [this]
        exact (i1 i).imp id fun z => ⟨z.1, by omega⟩
    · by_cases e : i = t
      · rw [e]; exact List.mem_cons_self
      · have : own_set S t (Int32.ofNat (n + 1)) i = S i := if_neg e
        rw [this] at hi
        exact List.mem_cons_of_mem _ (i4 i hi)
    · by_cases e : K n = key
      · refine ⟨t, ?_, ?_⟩
        · rw [← e]
          exact own_sl_new K S (K n) t _ q o1 (by rw [o2]) _ _ h
        · have : own_set S t (Int32.ofNat (n + 1)) t = Int32.ofNat (n + 1) := if_pos rfl
          rw [this]; exact o1
      · have hk' : own_mem K n key = true := by
          have hh : (own_mem K n key || decide (K n = key)) = true := hk
          rw [decide_eq_false e, Bool.or_false] at hh
          exact hh
        obtain ⟨t', h', hs⟩ := i5 key hk'
        refine ⟨t', own_sl_keep K S key t _ q _ _ _ h' hs, ?_⟩
        have hne : ¬ t' = t := fun e => hs (by rw [e]; exact q)
        have : own_set S t (Int32.ofNat (n + 1)) t' = S t' := if_neg hne
        rw [this]; exact hs
  · rw [if_neg q, if_neg q]
    refine ⟨i1.mono (by omega), by omega, ⟨ps, by omega, i4⟩, fun key hk => ?_⟩
    by_cases e : K n = key
    · exact ⟨t, by rw [← e]; exact h, q⟩
    · have hh : (own_mem K n key || decide (K n = key)) = true := hk
      rw [decide_eq_false e, Bool.or_false] at hh
      exact i5 key hh
theorem own_ins_eq (K : Nat → Int64) (S : Nat → Int32) (ixn : Nat) (la : Int32) (p t : Nat) (h : own_sl K S (K p) 16 (own_h (K p)) = some t) :
    own_ins K (S, ixn, la) p = some (if S t = 0 then own_set S t (Int32.ofNat (p + 1)) else S, if S t = 0 then ixn + 1 else ixn, if S t = 0 then Int32.ofNat t else -1) := by
  unfold own_ins
  rw [show own_sl K (S, ixn, la).1 (K p) 16 (own_h (K p)) = some t from h]
  show some (if S t = 0 then _ else _) = _
  by_cases q : S t = 0
  · simp only [if_pos q]
  · simp only [if_neg q]
/-- the index of the first n keys (n at most 3): it is made, and its Inv holds -/
theorem own_built (K : Nat → Int64) (la : Int32) : ∀ n, n ≤ 3 → ∃ S ixn la', own_bld K la n = some (S, ixn, la') ∧ own_Inv K n S ixn := by
  intro n
  induction n with
  | zero => intro _; exact ⟨_, _, _, rfl, own_Inv.zero K⟩
  | succ n ih =>
    intro hn
    obtain ⟨S, ixn, la', hb, I⟩ := ih (by omega)
    obtain ⟨t, ht, hs⟩ := I.find (by omega) (K n)
    refine ⟨_, _, if S t = 0 then Int32.ofNat t else -1, ?_, I.ins (by omega) hs⟩
    · show (own_bld K la n).bind (fun σ => own_ins K σ n) = _
      rw [hb]
      exact own_ins_eq K S ixn la' n t hs
theorem own_bld_inv {K : Nat → Int64} {la : Int32} {n : Nat} (hn : n ≤ 3) {S : Nat → Int32} {ixn : Nat} {la' : Int32} (hb : own_bld K la n = some (S, ixn, la')) : own_Inv K n S ixn := by
  obtain ⟨S1, i1, l1, h1, I⟩ := own_built K la n hn
  cases hb.symm.trans h1
  exact I
theorem own_bld_congr {K K' : Nat → Int64} {la : Int32} : ∀ n, n ≤ 3 → (∀ j, j < n → K j = K' j) → own_bld K la n = own_bld K' la n := by
  intro n
  induction n with
  | zero => intro _ _; rfl
  | succ n ih =>
    intro hn hK
    obtain ⟨S, ixn, la', hb, I⟩ := own_built K la n (by omega)
    obtain ⟨t, ht, hs⟩ := I.find (by omega) (K n)
    have hb' := hb
    rw [ih (by omega) (fun j hj => hK j (by omega))] at hb'
    have hs' : own_sl K' S (K' n) 16 (own_h (K' n)) = some t := by
      rw [← hK n (by omega), ← own_sl_congr I.1 (fun j hj => hK j (by omega))]
      exact hs
    show (own_bld K la n).bind (fun σ => own_ins K σ n) = (own_bld K' la n).bind (fun σ => own_ins K' σ n)
    rw [hb, hb']
    show own_ins K (S, ixn, la') n = own_ins K' (S, ixn, la') n
    rw [own_ins_eq K S ixn la' n t hs, own_ins_eq K' S ixn la' n t hs']
/-- the last key: a slot taken, or found -/
theorem own_bld_last {K : Nat → Int64} {la : Int32} {n : Nat} (hn : n < 3) {S' : Nat → Int32} {ix' : Nat} {la' : Int32} (hb : own_bld K la (n + 1) = some (S', ix', la')) :
    ∃ S ixn la1 t, own_bld K la n = some (S, ixn, la1) ∧ t < 16 ∧ own_sl K S (K n) 16 (own_h (K n)) = some t ∧ ((S t = 0 ∧ S' = own_set S t (Int32.ofNat (n + 1)) ∧ ix' = ixn + 1 ∧ la' = Int32.ofNat t) ∨ (¬ S t = 0 ∧ S' = S ∧ ix' = ixn ∧ la' = -1)) := by
  obtain ⟨S, ixn, la1, h1, I⟩ := own_built K la n (by omega)
  obtain ⟨t, ht, hs⟩ := I.find (by omega) (K n)
  refine ⟨S, ixn, la1, t, h1, ht, hs, ?_⟩
  have e : (own_bld K la n).bind (fun σ => own_ins K σ n) = some (S', ix', la') := hb
  rw [h1] at e
  have e2 : own_ins K (S, ixn, la1) n = some (S', ix', la') := e
  rw [own_ins_eq K S ixn la1 n t hs] at e2
  by_cases q : S t = 0
  · simp only [if_pos q] at e2
    cases e2
    exact Or.inl ⟨q, rfl, rfl, rfl⟩
  · simp only [if_neg q] at e2
    cases e2
    exact Or.inr ⟨q, rfl, rfl, rfl⟩
theorem own_setset {S : Nat → Int32} {t : Nat} {v : Int32} (h : S t = 0) : own_set (own_set S t v) t 0 = S := by
  funext j
  unfold own_set
  by_cases q : j = t
  · rw [if_pos q, q, h]
  · rw [if_neg q, if_neg q]
/-- one turn of buildIndex -/
theorem own_bnext {K : Nat → Int64} {la : Int32} {j : Nat} {S : Nat → Int32} {ixn : Nat} {la' : Int32} {t : Nat} (hb : own_bld K la j = some (S, ixn, la')) (hm : own_sl K S (K j) 16 (own_h (K j)) = some t) (A : (Nat → Int32) → Int32 → Int32 → Prop)
    (hif : if S t = (0 : Int32) then A (own_set S t (Int32.ofNat (j + 1))) (Int32.ofNat ixn + (1 : Int32)) (Int32.ofNat t) else A S (Int32.ofNat ixn) (-1 : Int32)) :
    ∃ S2 ix2 la2, own_bld K la (j + 1) = some (S2, ix2, la2) ∧ A S2 (Int32.ofNat ix2) la2 := by
  have e : own_bld K la (j + 1) = own_ins K (S, ixn, la') j := by
    show (own_bld K la j).bind (fun σ => own_ins K σ j) = _
    rw [hb]; rfl
  rw [own_ins_eq K S ixn la' j t hm] at e
  refine ⟨_, _, _, e, ?_⟩
  by_cases q : S t = 0
  · simp only [if_pos q] at hif ⊢
    rw [own_cnt] at hif
    exact hif
  · simp only [if_neg q] at hif ⊢
    exact hif

theorem own_W.count {Z : State} {h : Heap} {n0 : Nat} {w kA sA dA pA : Addr} {sv : Value} {K Sz : Nat → Int64} {D : Nat → Int32} {cnt : Nat} {fs : Int64} {mx am ix la : Int32} (B : own_W Z h n0 w kA sA dA pA sv K Sz D cnt fs mx am ix la) : Fld Z h w "com/example/strati/strati/sim/WriteBuffer" "count" "I" (.int (Int32.ofNat cnt)) := B.2.2.2.2.2.1
theorem own_room16 {cnt : Nat} (h : cnt ≤ 3) : ¬ (16 : Int32) < (2 : Int32) * Int32.ofNat cnt := by
  have hc : cnt = 0 ∨ cnt = 1 ∨ cnt = 2 ∨ cnt = 3 := by omega
  rcases hc with rfl | rfl | rfl | rfl <;> decide
theorem own_ix8 {ixn : Nat} (h : ixn ≤ 3) : ¬ (16 : Int32) < (2 : Int32) * (Int32.ofNat ixn + (1 : Int32)) := by
  have hc : ixn = 0 ∨ ixn = 1 ∨ ixn = 2 ∨ ixn = 3 := by omega
  rcases hc with rfl | rfl | rfl | rfl <;> decide
theorem own_kt2 {h0 : Heap} {a b : Addr} (q : h0.size ≤ b) : ∀ x ∈ [a, b], x ∈ [a] ∨ h0.size ≤ x := fun x hx => by
  rcases List.mem_cons.mp hx with rfl | hx
  · exact Or.inl List.mem_cons_self
  · cases List.mem_singleton.mp hx; exact Or.inr q
theorem own_bi1 {b : Bool} {x : Int32} (h : ¬ x = 0 ↔ b = true) (q : ¬ x = 0) : (1 : Int32) = own_bi b := by rw [h.mp q]; rfl
theorem own_bi0 {b : Bool} {x : Int32} (h : ¬ x = 0 ↔ b = true) (q : x = 0) : (0 : Int32) = own_bi b := by
  have : ¬ b = true := fun e => (h.mpr e) q
  rw [Bool.not_eq_true] at this
  rw [this]; rfl
theorem own_c16 {cnt : Nat} (h : cnt < 16) : ¬ Int32.ofNat cnt = (16 : Int32) := by
  intro q
  have e := own_toI (n := cnt) (by omega)
  rw [q] at e
  have z : (16 : Int32).toInt = 16 := rfl
  omega
theorem own_c0 {cnt : Nat} (h : cnt < 16) (q : Int32.ofNat cnt = (0 : Int32)) : cnt = 0 := by
  have e := own_toI (n := cnt) (by omega)
  rw [q] at e
  have z : (0 : Int32).toInt = 0 := rfl
  omega
theorem own_fit1 {x : Int32} (h : x = 0 ∨ x = 1) : narrow .boolean (.int x) = .int x := by rcases h with rfl | rfl <;> rfl
theorem own_fit2 {x : Int32} (h : x = 0 ∨ x = 1) : fits .boolean (.int x) = true := by rcases h with rfl | rfl <;> rfl
theorem own_orb {x y : Int32} (h : x = 0 ∨ x = 1) (h' : y = 0 ∨ y = 1) : (x ||| y) = 0 ∨ (x ||| y) = 1 := by
  rcases h with rfl | rfl <;> rcases h' with rfl | rfl <;> decide
theorem own_cntp (n : Nat) : Int32.ofNat (n + 1) - (1 : Int32) = Int32.ofNat n := by rw [← own_cnt, Int32.add_sub_cancel]

theorem own_kt5 {h0 : Heap} {a b c d e : Addr} : ∀ x ∈ [a, e], x ∈ [a, b, c, d, e] ∨ h0.size ≤ x := fun x hx => by
  rcases List.mem_cons.mp hx with rfl | hx
  · exact Or.inl List.mem_cons_self
  · cases List.mem_singleton.mp hx
    exact Or.inl (by simp)
theorem own_or0 (d : Int32) : (0 : Int32) ||| d = d := Int32.zero_or

theorem own_la0 {tt : Nat} (h : tt < 16) : ¬ Int32.ofNat tt < (0 : Int32) := by rw [own_lt32, own_toI (by omega), Int32.toInt_zero]; omega
theorem d10_0 : decode prog_67_method_9_code 0 = .ok (.aload_n 0, 1) := by decide +kernel
theorem d10_1 : decode prog_67_method_9_code 1 = .ok (.getfield 9, 3) := by decide +kernel
theorem d10_4 : decode prog_67_method_9_code 4 = .ok (.iload_n 1, 1) := by decide +kernel
theorem d10_5 : decode prog_67_method_9_code 5 = .ok (.laload, 1) := by decide +kernel
theorem d10_6 : decode prog_67_method_9_code 6 = .ok (.lstore_n 2, 1) := by decide +kernel
theorem d10_7 : decode prog_67_method_9_code 7 = .ok (.aload_n 0, 1) := by decide +kernel
theorem d10_8 : decode prog_67_method_9_code 8 = .ok (.aload_n 0, 1) := by decide +kernel
theorem d10_9 : decode prog_67_method_9_code 9 = .ok (.getfield 55, 3) := by decide +kernel
theorem d10_12 : decode prog_67_method_9_code 12 = .ok (.lload_n 2, 1) := by decide +kernel
theorem d10_13 : decode prog_67_method_9_code 13 = .ok (.invokevirtual 68, 3) := by decide +kernel
theorem d10_16 : decode prog_67_method_9_code 16 = .ok (.istore 4, 2) := by decide +kernel
theorem d10_18 : decode prog_67_method_9_code 18 = .ok (.aload_n 0, 1) := by decide +kernel
theorem d10_19 : decode prog_67_method_9_code 19 = .ok (.iconst (-1), 1) := by decide +kernel
theorem d10_20 : decode prog_67_method_9_code 20 = .ok (.putfield 24, 3) := by decide +kernel
theorem d10_23 : decode prog_67_method_9_code 23 = .ok (.aload_n 0, 1) := by decide +kernel
theorem d10_24 : decode prog_67_method_9_code 24 = .ok (.getfield 55, 3) := by decide +kernel
theorem d10_27 : decode prog_67_method_9_code 27 = .ok (.iload 4, 2) := by decide +kernel
theorem d10_29 : decode prog_67_method_9_code 29 = .ok (.iaload, 1) := by decide +kernel
theorem d10_30 : decode prog_67_method_9_code 30 = .ok (.ifCond .eq 4, 3) := by decide +kernel
theorem d10_33 : decode prog_67_method_9_code 33 = .ok (.return_, 1) := by decide +kernel
theorem d10_34 : decode prog_67_method_9_code 34 = .ok (.iconst 2, 1) := by decide +kernel
theorem d10_35 : decode prog_67_method_9_code 35 = .ok (.aload_n 0, 1) := by decide +kernel
theorem d10_36 : decode prog_67_method_9_code 36 = .ok (.getfield 62, 3) := by decide +kernel
theorem d10_39 : decode prog_67_method_9_code 39 = .ok (.iconst 1, 1) := by decide +kernel
theorem d10_40 : decode prog_67_method_9_code 40 = .ok (.iadd, 1) := by decide +kernel
theorem d10_41 : decode prog_67_method_9_code 41 = .ok (.imul, 1) := by decide +kernel
theorem d10_42 : decode prog_67_method_9_code 42 = .ok (.aload_n 0, 1) := by decide +kernel
theorem d10_43 : decode prog_67_method_9_code 43 = .ok (.getfield 55, 3) := by decide +kernel
theorem d10_46 : decode prog_67_method_9_code 46 = .ok (.arraylength, 1) := by decide +kernel
theorem d10_47 : decode prog_67_method_9_code 47 = .ok (.if_icmp .le 19, 3) := by decide +kernel
theorem d10_50 : decode prog_67_method_9_code 50 = .ok (.aload_n 0, 1) := by decide +kernel
theorem d10_51 : decode prog_67_method_9_code 51 = .ok (.iload_n 1, 1) := by decide +kernel
theorem d10_52 : decode prog_67_method_9_code 52 = .ok (.invokevirtual 84, 3) := by decide +kernel
theorem d10_55 : decode prog_67_method_9_code 55 = .ok (.aload_n 0, 1) := by decide +kernel
theorem d10_56 : decode prog_67_method_9_code 56 = .ok (.aload_n 0, 1) := by decide +kernel
theorem d10_57 : decode prog_67_method_9_code 57 = .ok (.getfield 55, 3) := by decide +kernel
theorem d10_60 : decode prog_67_method_9_code 60 = .ok (.lload_n 2, 1) := by decide +kernel
theorem d10_61 : decode prog_67_method_9_code 61 = .ok (.invokevirtual 68, 3) := by decide +kernel
theorem d10_64 : decode prog_67_method_9_code 64 = .ok (.istore 4, 2) := by decide +kernel
theorem d10_66 : decode prog_67_method_9_code 66 = .ok (.aload_n 0, 1) := by decide +kernel
theorem d10_67 : decode prog_67_method_9_code 67 = .ok (.getfield 55, 3) := by decide +kernel
theorem d10_70 : decode prog_67_method_9_code 70 = .ok (.iload 4, 2) := by decide +kernel
theorem d10_72 : decode prog_67_method_9_code 72 = .ok (.iload_n 1, 1) := by decide +kernel
theorem d10_73 : decode prog_67_method_9_code 73 = .ok (.iconst 1, 1) := by decide +kernel
theorem d10_74 : decode prog_67_method_9_code 74 = .ok (.iadd, 1) := by decide +kernel
theorem d10_75 : decode prog_67_method_9_code 75 = .ok (.iastore, 1) := by decide +kernel
theorem d10_76 : decode prog_67_method_9_code 76 = .ok (.aload_n 0, 1) := by decide +kernel
theorem d10_77 : decode prog_67_method_9_code 77 = .ok (.dup, 1) := by decide +kernel
theorem d10_78 : decode prog_67_method_9_code 78 = .ok (.getfield 62, 3) := by decide +kernel
theorem d10_81 : decode prog_67_method_9_code 81 = .ok (.iconst 1, 1) := by decide +kernel
theorem d10_82 : decode prog_67_method_9_code 82 = .ok (.iadd, 1) := by decide +kernel
theorem d10_83 : decode prog_67_method_9_code 83 = .ok (.putfield 62, 3) := by decide +kernel
theorem d10_86 : decode prog_67_method_9_code 86 = .ok (.aload_n 0, 1) := by decide +kernel
theorem d10_87 : decode prog_67_method_9_code 87 = .ok (.iload 4, 2) := by decide +kernel
theorem d10_89 : decode prog_67_method_9_code 89 = .ok (.putfield 24, 3) := by decide +kernel
theorem d10_92 : decode prog_67_method_9_code 92 = .ok (.return_, 1) := by decide +kernel
theorem pn_10 : plainName "com/example/strati/strati/sim/WriteBuffer" = true := by first | (simp [plainName, overriddenIn]; done) | decide +kernel
theorem pd_10 : parseMethodDescriptor "(I)V" = some ⟨[.int], none⟩ := by decide +kernel
theorem ef_10 (m : MethodId) (x0 : Addr) (x1 : Int32) : entryFrame m #[(.ref x0), (.int x1)] 5 = mkF m 0 #[.val (.ref x0), .val (.int x1), .unset, .unset, .unset] [] := by first | (simp [entryFrame, mkF, argsToLocals, Value.category]; done) | rfl
def own_F10 (Z : State) (x0 : Addr) (x1 : Int32) (kA sA dA pA : Addr) (K Sz : Nat → Int64) (D : Nat → Int32) (cnt : Nat) (fs : Int64) (mx am la : Int32) (ix : Int32) (iA : Addr) (S : Nat → Int32) (pp tt : Nat) (n0 : Nat) (h0 : Heap) (v : Option Value) (h : Heap) (L : List Loc) : Prop := v = none ∧ Fr n0 L ∧ Keep h0 h [x0, iA] ∧ (if S tt = (0 : Int32) then own_W Z h n0 x0 kA sA dA pA (.ref iA) K Sz D cnt fs mx am (ix + (1 : Int32)) (Int32.ofNat tt) ∧ own_I Z h n0 x0 kA sA dA pA iA (own_set S tt (Int32.ofNat (pp + 1))) else own_W Z h n0 x0 kA sA dA pA (.ref iA) K Sz D cnt fs mx am ix (-1 : Int32) ∧ own_I Z h n0 x0 kA sA dA pA iA S)
set_option maxRecDepth 65536 in
set_option maxHeartbeats 40000000 in
theorem own_m10 (l : Launch) (Z : State) (a0 : Array Value) (hw : ∀ d ∈ tables_1, d.before a0 Z = true) (ws : List Jvm.Cond) (x0 : Addr) (x1 : Int32) (kA sA dA pA : Addr) (K Sz : Nat → Int64) (D : Nat → Int32) (cnt : Nat) (fs : Int64) (mx am la : Int32) (ix : Int32) (iA : Addr) (S : Nat → Int32) (pp tt : Nat) (n0 : Nat) (h0 : Heap)  (B : own_W Z h0 n0 x0 kA sA dA pA (.ref iA) K Sz D cnt fs mx am ix la) (I : own_I Z h0 n0 x0 kA sA dA pA iA S) (hS : own_OK S) (hp : x1.toInt = (pp : Nat)) (hp16 : pp < 16) (hm : own_sl K S (K pp) 16 (own_h (K pp)) = some tt) (htt : tt < 16) (hix : ¬ (16 : Int32) < (2 : Int32) * (ix + (1 : Int32))) :
    MetFree l (⟨"com/example/strati/strati/sim/WriteBuffer", "index", "(I)V"⟩ : MethodName) (head1 (Jvm.Cond.code (⟨"com/example/strati/strati/sim/WriteBuffer", "index", "(I)V"⟩ : MethodName) prog_67_method_9_code 5 none :: ws) ({ frames := 2, cells := 0, slots := 0, locals := 30 } : Room)) (fun a U => a = #[(.ref x0), (.int x1)] ∧ Z.Warmed39 U.vm ∧ U.heap = h0) (fun _ _ _ _ _ => True) (fun _ U o U' => ∃ v L, o = .returned v ∧ own_F10 Z x0 x1 kA sA dA pA K Sz D cnt fs mx am la ix iA S pp tt n0 h0 v U'.heap L ∧ FrameEnd U o U' L ({ frames := 2, cells := 0, slots := 0, locals := 30 } : Room).cells ({ frames := 2, cells := 0, slots := 0, locals := 30 } : Room).slots) := by
  refine MetFree.of_bodySF (plainFor_of_name pn_10) hisR ?_
  intro p e s m args below meth c s₁ Bd hml0 hP hK
  obtain ⟨rfl, hZ, hh⟩ := hP
  have hx := Bd.exec
  have hby := Bd.bytes
  have hml : c.maxLocals = 5 := hml0
  have hown : s.vm.findClass "com/example/strati/strati/sim/WriteBuffer" = some m.cls := findClass_of_methodNamed Bd.named
  have hnm := (name_of_methodNamed Bd.named Bd.method).1
  have X0 : Stand p l e ({ frames := 2, cells := 0, slots := 0, locals := 30 } : Room) s m #[(.ref x0), (.int x1)] below meth c s₁ [] 0 0 := Stand.of_body Bd
  have e0 : s₁.heap = h0 := by rw [← hh, Bd.state]; rfl
  obtain ⟨E0, P0, P1, P2, P3, P4, P5, P6, P7, P8, P9, P10, R0, R1, R2, R3, n1, n2, n3, n4, n5, n6, n7, n8, n9, n10, gw0, gw1, gw2, gw3, hmx, ham⟩ := B
  obtain ⟨RI, m1, m2, m3, m4, m5, gi⟩ := I
  have Z0 : n0 ≤ h0.size := Nat.le_trans gw0 (Nat.le_of_lt E0.lt)
  have N0 := Fr.nil n0
  have K0 : Keep h0 h0 [x0, iA] := Keep.refl h0 [x0, iA]
  have hgo : own_Goes p e below s (own_F10 Z x0 x1 kA sA dA pA K Sz D cnt fs mx am la ix iA S pp tt n0 h0) 0 0 (s₁.setTop (mkF m 0 #[.val (.ref x0), .val (.int x1), .unset, .unset, .unset] [])) := by
    refine own_Goes.step (fun tq kq => XS.aloadN X0.here hx rfl (hb hby d10_0) rfl rfl kq) ?_
    show own_Goes _ _ _ _ _ _ _ (s₁.setTop (mkF m 1 #[.val (.ref x0), .val (.int x1), .unset, .unset, .unset] [(.ref x0)]))
    obtain ⟨T1, X1, e1, st1⟩ := getF X0 hx hZ hown (host := "") (Or.inl (own_at hw 27 rfl)) Via.refl e0 P0 (g := (mkF m 1 #[.val (.ref x0), .val (.int x1), .unset, .unset, .unset] [(.ref x0)])) rfl rfl (hb hby d10_1)
    refine own_Goes.step st1 ?_
    show own_Goes _ _ _ _ _ _ _ (T1.setTop (mkF m 4 #[.val (.ref x0), .val (.int x1), .unset, .unset, .unset] [(.ref kA)]))
    refine own_Goes.step (fun tq kq => XS.iloadN X1.here hx rfl (hb hby d10_4) rfl kq) ?_
    show own_Goes _ _ _ _ _ _ _ (T1.setTop (mkF m 5 #[.val (.ref x0), .val (.int x1), .unset, .unset, .unset] [(.int x1), (.ref kA)]))
    refine own_Goes.step (own_lald X1 hx hZ e1 R0 (i := pp) hp hp16 (v := (.long (K pp))) rfl (g := (mkF m 5 #[.val (.ref x0), .val (.int x1), .unset, .unset, .unset] [(.int x1), (.ref kA)])) rfl rfl (hb hby d10_5)) ?_
    show own_Goes _ _ _ _ _ _ _ (T1.setTop (mkF m 6 #[.val (.ref x0), .val (.int x1), .unset, .unset, .unset] [(.long (K pp))]))
    refine own_Goes.step (fun tq kq => XT.lstoreN X1.here hx rfl (hb hby d10_6) rfl (l' := #[.val (.ref x0), .val (.int x1), .val (.long (K pp)), .second, .unset]) rfl kq) ?_
    show own_Goes _ _ _ _ _ _ _ (T1.setTop (mkF m 7 #[.val (.ref x0), .val (.int x1), .val (.long (K pp)), .second, .unset] []))
    refine own_Goes.step (fun tq kq => XS.aloadN X1.here hx rfl (hb hby d10_7) rfl rfl kq) ?_
    show own_Goes _ _ _ _ _ _ _ (T1.setTop (mkF m 8 #[.val (.ref x0), .val (.int x1), .val (.long (K pp)), .second, .unset] [(.ref x0)]))
    refine own_Goes.step (fun tq kq => XS.aloadN X1.here hx rfl (hb hby d10_8) rfl rfl kq) ?_
    show own_Goes _ _ _ _ _ _ _ (T1.setTop (mkF m 9 #[.val (.ref x0), .val (.int x1), .val (.long (K pp)), .second, .unset] [(.ref x0), (.ref x0)]))
    obtain ⟨T3, X3, e3, st3⟩ := getF X1 hx hZ hown (host := "") (Or.inl (own_at hw 62 rfl)) Via.refl e1 P8 (g := (mkF m 9 #[.val (.ref x0), .val (.int x1), .val (.long (K pp)), .second, .unset] [(.ref x0), (.ref x0)])) rfl rfl (hb hby d10_9)
    refine own_Goes.step st3 ?_
    show own_Goes _ _ _ _ _ _ _ (T3.setTop (mkF m 12 #[.val (.ref x0), .val (.int x1), .val (.long (K pp)), .second, .unset] [(.ref iA), (.ref x0)]))
    refine own_Goes.step (fun tq kq => XT.lloadN X3.here hx rfl (hb hby d10_12) rfl kq) ?_
    show own_Goes _ _ _ _ _ _ _ (T3.setTop (mkF m 13 #[.val (.ref x0), .val (.int x1), .val (.long (K pp)), .second, .unset] [(.long (K pp)), (.ref iA), (.ref x0)]))
    obtain ⟨w4, T4, L4, q4, Y4, st4⟩ := own_priv X3 hx hZ e3 E0 hown (own_at hw 79 rfl) (own_at hw 81 rfl) (own_at hw 20 rfl) (own_at hw 80 rfl) (own_at hw 21 rfl) (own_at hw 82 rfl) (by decide) (own_m11 l Z a0 hw [] x0 iA (K pp) kA K S tt n0 h0 P0 R0 RI hS hm) (by decide) (W := 0) (by decide) (by decide) (by decide) (g := (mkF m 13 #[.val (.ref x0), .val (.int x1), .val (.long (K pp)), .second, .unset] [(.long (K pp)), (.ref iA), (.ref x0)])) rfl (by rw [hml]; rfl) (argsL := [(.ref iA), (.long (K pp))]) (rest := []) (lenOf pd_11 rfl) rfl (by show 2 * 0 + _ ≤ _; exact Nat.le_of_eq rfl) (hb hby d10_13)
    obtain ⟨e4, X4⟩ := own_clean q4 Y4 rfl rfl
    obtain ⟨rfl, -, -⟩ := q4
    refine own_Goes.step st4 ?_
    show own_Goes _ _ _ _ _ _ _ (T4.setTop (mkF m 16 #[.val (.ref x0), .val (.int x1), .val (.long (K pp)), .second, .unset] [(.int (Int32.ofNat tt))]))
    refine own_Goes.step (fun tq kq => XS.istore X4.here hx rfl (hb hby d10_16) rfl (l' := #[.val (.ref x0), .val (.int x1), .val (.long (K pp)), .second, .val (.int (Int32.ofNat tt))]) rfl kq) ?_
    show own_Goes _ _ _ _ _ _ _ (T4.setTop (mkF m 18 #[.val (.ref x0), .val (.int x1), .val (.long (K pp)), .second, .val (.int (Int32.ofNat tt))] []))
    refine own_Goes.step (fun tq kq => XS.aloadN X4.here hx rfl (hb hby d10_18) rfl rfl kq) ?_
    show own_Goes _ _ _ _ _ _ _ (T4.setTop (mkF m 19 #[.val (.ref x0), .val (.int x1), .val (.long (K pp)), .second, .val (.int (Int32.ofNat tt))] [(.ref x0)]))
    refine own_Goes.step (fun tq kq => XT.iconstV X4.here hx rfl (-1 : Int32) (hb hby d10_19) (by decide) kq) ?_
    show own_Goes _ _ _ _ _ _ _ (T4.setTop (mkF m 20 #[.val (.ref x0), .val (.int x1), .val (.long (K pp)), .second, .val (.int (Int32.ofNat tt))] [(.int (-1 : Int32)), (.ref x0)]))
    obtain ⟨T5, h5, X5, e5, W5, st5⟩ := putF X4 hx hZ hown (host := "") (Or.inl (own_at hw 37 rfl)) Via.refl e4 (v := (.int (-1 : Int32))) P10 E0 (Or.inl (own_at hw 38 rfl)) (own_at hw 20 rfl) (ty := .int) (by decide) rfl rfl (g := (mkF m 20 #[.val (.ref x0), .val (.int x1), .val (.long (K pp)), .second, .val (.int (Int32.ofNat tt))] [(.int (-1 : Int32)), (.ref x0)])) rfl rfl (hb hby d10_20)
    refine own_Goes.step st5 ?_
    have f6 := E0.wr W5
    have f7 := P0.other W5 (Or.inr (slot_ne (Or.inl (own_at hw 28 rfl)) (Or.inl (own_at hw 38 rfl)) (by decide) (t := (.array .long)) (t' := .int) (by decide) (by decide)))
    have f8 := P1.other W5 (Or.inr (slot_ne (Or.inl (own_at hw 30 rfl)) (Or.inl (own_at hw 38 rfl)) (by decide) (t := (.array .long)) (t' := .int) (by decide) (by decide)))
    have f9 := P2.other W5 (Or.inr (slot_ne (Or.inl (own_at hw 33 rfl)) (Or.inl (own_at hw 38 rfl)) (by decide) (t := (.array .boolean)) (t' := .int) (by decide) (by decide)))
    have f10 := P3.other W5 (Or.inr (slot_ne (Or.inl (own_at hw 36 rfl)) (Or.inl (own_at hw 38 rfl)) (by decide) (t := (.array .int)) (t' := .int) (by decide) (by decide)))
    have f11 := P4.other W5 (Or.inr (slot_ne (Or.inl (own_at hw 45 rfl)) (Or.inl (own_at hw 38 rfl)) (by decide) (t := .int) (t' := .int) (by decide) (by decide)))
    have f12 := P5.other W5 (Or.inr (slot_ne (Or.inl (own_at hw 52 rfl)) (Or.inl (own_at hw 38 rfl)) (by decide) (t := .long) (t' := .int) (by decide) (by decide)))
    have f13 := P6.other W5 (Or.inr (slot_ne (Or.inl (own_at hw 54 rfl)) (Or.inl (own_at hw 38 rfl)) (by decide) (t := .boolean) (t' := .int) (by decide) (by decide)))
    have f14 := P7.other W5 (Or.inr (slot_ne (Or.inl (own_at hw 56 rfl)) (Or.inl (own_at hw 38 rfl)) (by decide) (t := .boolean) (t' := .int) (by decide) (by decide)))
    have f15 := P8.other W5 (Or.inr (slot_ne (Or.inl (own_at hw 63 rfl)) (Or.inl (own_at hw 38 rfl)) (by decide) (t := (.array .int)) (t' := .int) (by decide) (by decide)))
    have f16 := P9.other W5 (Or.inr (slot_ne (Or.inl (own_at hw 74 rfl)) (Or.inl (own_at hw 38 rfl)) (by decide) (t := .int) (t' := .int) (by decide) (by decide)))
    have f17 := P10.same W5
    have f18 := R0.other W5 (Ne.symm n1)
    have f19 := R1.other W5 (Ne.symm n2)
    have f20 := R2.other W5 (Ne.symm n3)
    have f21 := R3.other W5 (Ne.symm n4)
    have f22 := RI.other W5 (Ne.symm m1)
    have K23 := K0.wr W5 (Or.inl (List.mem_of_getElem? (i := 0) rfl))
    have N24 := Fr.snoc X5 N0 gw0
    have Z25 : n0 ≤ h5.size := Nat.le_trans Z0 (Keep.of_wr W5).1
    show own_Goes _ _ _ _ _ _ _ (T5.setTop (mkF m 23 #[.val (.ref x0), .val (.int x1), .val (.long (K pp)), .second, .val (.int (Int32.ofNat tt))] []))
    refine own_Goes.step (fun tq kq => XS.aloadN X5.here hx rfl (hb hby d10_23) rfl rfl kq) ?_
    show own_Goes _ _ _ _ _ _ _ (T5.setTop (mkF m 24 #[.val (.ref x0), .val (.int x1), .val (.long (K pp)), .second, .val (.int (Int32.ofNat tt))] [(.ref x0)]))
    obtain ⟨T26, X26, e26, st26⟩ := getF X5 hx hZ hown (host := "") (Or.inl (own_at hw 62 rfl)) Via.refl e5 f15 (g := (mkF m 24 #[.val (.ref x0), .val (.int x1), .val (.long (K pp)), .second, .val (.int (Int32.ofNat tt))] [(.ref x0)])) rfl rfl (hb hby d10_24)
    refine own_Goes.step st26 ?_
    show own_Goes _ _ _ _ _ _ _ (T26.setTop (mkF m 27 #[.val (.ref x0), .val (.int x1), .val (.long (K pp)), .second, .val (.int (Int32.ofNat tt))] [(.ref iA)]))
    refine own_Goes.step (fun tq kq => XS.iload X26.here hx rfl (hb hby d10_27) rfl kq) ?_
    show own_Goes _ _ _ _ _ _ _ (T26.setTop (mkF m 29 #[.val (.ref x0), .val (.int x1), .val (.long (K pp)), .second, .val (.int (Int32.ofNat tt))] [(.int (Int32.ofNat tt)), (.ref iA)]))
    refine own_Goes.step (own_iald X26 hx hZ e26 f22 (i := tt) (own_toI (by omega)) htt (v := (.int (S tt))) rfl (g := (mkF m 29 #[.val (.ref x0), .val (.int x1), .val (.long (K pp)), .second, .val (.int (Int32.ofNat tt))] [(.int (Int32.ofNat tt)), (.ref iA)])) rfl rfl (hb hby d10_29)) ?_
    show own_Goes _ _ _ _ _ _ _ (T26.setTop (mkF m 30 #[.val (.ref x0), .val (.int x1), .val (.long (K pp)), .second, .val (.int (Int32.ofNat tt))] [(.int (S tt))]))
    by_cases hc28 : (S tt) = (0 : Int32)
    · refine own_Goes.step (fun tq kq => XS.ifYes X26.here hx rfl (pc0 := 30) (pc' := 34) rfl (hb hby d10_30) rfl (XT.i0_eq_t hc28) (by decide) (by decide) kq) ?_
      show own_Goes _ _ _ _ _ _ _ (T26.setTop (mkF m 34 #[.val (.ref x0), .val (.int x1), .val (.long (K pp)), .second, .val (.int (Int32.ofNat tt))] []))
      refine own_Goes.step (fun tq kq => XT.iconstV X26.here hx rfl (2 : Int32) (hb hby d10_34) (by decide) kq) ?_
      show own_Goes _ _ _ _ _ _ _ (T26.setTop (mkF m 35 #[.val (.ref x0), .val (.int x1), .val (.long (K pp)), .second, .val (.int (Int32.ofNat tt))] [(.int (2 : Int32))]))
      refine own_Goes.step (fun tq kq => XS.aloadN X26.here hx rfl (hb hby d10_35) rfl rfl kq) ?_
      show own_Goes _ _ _ _ _ _ _ (T26.setTop (mkF m 36 #[.val (.ref x0), .val (.int x1), .val (.long (K pp)), .second, .val (.int (Int32.ofNat tt))] [(.ref x0), (.int (2 : Int32))]))
      obtain ⟨T29, X29, e29, st29⟩ := getF X26 hx hZ hown (host := "") (Or.inl (own_at hw 73 rfl)) Via.refl e26 f16 (g := (mkF m 36 #[.val (.ref x0), .val (.int x1), .val (.long (K pp)), .second, .val (.int (Int32.ofNat tt))] [(.ref x0), (.int (2 : Int32))])) rfl rfl (hb hby d10_36)
      refine own_Goes.step st29 ?_
      show own_Goes _ _ _ _ _ _ _ (T29.setTop (mkF m 39 #[.val (.ref x0), .val (.int x1), .val (.long (K pp)), .second, .val (.int (Int32.ofNat tt))] [(.int ix), (.int (2 : Int32))]))
      refine own_Goes.step (fun tq kq => XT.iconstV X29.here hx rfl (1 : Int32) (hb hby d10_39) (by decide) kq) ?_
      show own_Goes _ _ _ _ _ _ _ (T29.setTop (mkF m 40 #[.val (.ref x0), .val (.int x1), .val (.long (K pp)), .second, .val (.int (Int32.ofNat tt))] [(.int (1 : Int32)), (.int ix), (.int (2 : Int32))]))
      refine own_Goes.step (fun tq kq => XS.iadd X29.here hx rfl (hb hby d10_40) rfl kq) ?_
      show own_Goes _ _ _ _ _ _ _ (T29.setTop (mkF m 41 #[.val (.ref x0), .val (.int x1), .val (.long (K pp)), .second, .val (.int (Int32.ofNat tt))] [(.int (ix + (1 : Int32))), (.int (2 : Int32))]))
      refine own_Goes.step (fun tq kq => XS.imul X29.here hx rfl (hb hby d10_41) rfl kq) ?_
      show own_Goes _ _ _ _ _ _ _ (T29.setTop (mkF m 42 #[.val (.ref x0), .val (.int x1), .val (.long (K pp)), .second, .val (.int (Int32.ofNat tt))] [(.int ((2 : Int32) * (ix + (1 : Int32))))]))
      refine own_Goes.step (fun tq kq => XS.aloadN X29.here hx rfl (hb hby d10_42) rfl rfl kq) ?_
      show own_Goes _ _ _ _ _ _ _ (T29.setTop (mkF m 43 #[.val (.ref x0), .val (.int x1), .val (.long (K pp)), .second, .val (.int (Int32.ofNat tt))] [(.ref x0), (.int ((2 : Int32) * (ix + (1 : Int32))))]))
      obtain ⟨T30, X30, e30, st30⟩ := getF X29 hx hZ hown (host := "") (Or.inl (own_at hw 62 rfl)) Via.refl e29 f15 (g := (mkF m 43 #[.val (.ref x0), .val (.int x1), .val (.long (K pp)), .second, .val (.int (Int32.ofNat tt))] [(.ref x0), (.int ((2 : Int32) * (ix + (1 : Int32))))])) rfl rfl (hb hby d10_43)
      refine own_Goes.step st30 ?_
      show own_Goes _ _ _ _ _ _ _ (T30.setTop (mkF m 46 #[.val (.ref x0), .val (.int x1), .val (.long (K pp)), .second, .val (.int (Int32.ofNat tt))] [(.ref iA), (.int ((2 : Int32) * (ix + (1 : Int32))))]))
      refine own_Goes.step (own_alen X30 hx hZ e30 f22 (z := (16 : Int32)) (by decide) (g := (mkF m 46 #[.val (.ref x0), .val (.int x1), .val (.long (K pp)), .second, .val (.int (Int32.ofNat tt))] [(.ref iA), (.int ((2 : Int32) * (ix + (1 : Int32))))])) rfl rfl (hb hby d10_46)) ?_
      show own_Goes _ _ _ _ _ _ _ (T30.setTop (mkF m 47 #[.val (.ref x0), .val (.int x1), .val (.long (K pp)), .second, .val (.int (Int32.ofNat tt))] [(.int (16 : Int32)), (.int ((2 : Int32) * (ix + (1 : Int32))))]))
      refine own_Goes.step (fun tq kq => XS.icmpYes X30.here hx rfl (pc0 := 47) (pc' := 66) rfl (hb hby d10_47) rfl (XT.ii_le_t (hix)) (by decide) (by decide) kq) ?_
      show own_Goes _ _ _ _ _ _ _ (T30.setTop (mkF m 66 #[.val (.ref x0), .val (.int x1), .val (.long (K pp)), .second, .val (.int (Int32.ofNat tt))] []))
      refine own_Goes.step (fun tq kq => XS.aloadN X30.here hx rfl (hb hby d10_66) rfl rfl kq) ?_
      show own_Goes _ _ _ _ _ _ _ (T30.setTop (mkF m 67 #[.val (.ref x0), .val (.int x1), .val (.long (K pp)), .second, .val (.int (Int32.ofNat tt))] [(.ref x0)]))
      obtain ⟨T32, X32, e32, st32⟩ := getF X30 hx hZ hown (host := "") (Or.inl (own_at hw 62 rfl)) Via.refl e30 f15 (g := (mkF m 67 #[.val (.ref x0), .val (.int x1), .val (.long (K pp)), .second, .val (.int (Int32.ofNat tt))] [(.ref x0)])) rfl rfl (hb hby d10_67)
      refine own_Goes.step st32 ?_
      show own_Goes _ _ _ _ _ _ _ (T32.setTop (mkF m 70 #[.val (.ref x0), .val (.int x1), .val (.long (K pp)), .second, .val (.int (Int32.ofNat tt))] [(.ref iA)]))
      refine own_Goes.step (fun tq kq => XS.iload X32.here hx rfl (hb hby d10_70) rfl kq) ?_
      show own_Goes _ _ _ _ _ _ _ (T32.setTop (mkF m 72 #[.val (.ref x0), .val (.int x1), .val (.long (K pp)), .second, .val (.int (Int32.ofNat tt))] [(.int (Int32.ofNat tt)), (.ref iA)]))
      refine own_Goes.step (fun tq kq => XS.iloadN X32.here hx rfl (hb hby d10_72) rfl kq) ?_
      show own_Goes _ _ _ _ _ _ _ (T32.setTop (mkF m 73 #[.val (.ref x0), .val (.int x1), .val (.long (K pp)), .second, .val (.int (Int32.ofNat tt))] [(.int x1), (.int (Int32.ofNat tt)), (.ref iA)]))
      refine own_Goes.step (fun tq kq => XT.iconstV X32.here hx rfl (1 : Int32) (hb hby d10_73) (by decide) kq) ?_
      show own_Goes _ _ _ _ _ _ _ (T32.setTop (mkF m 74 #[.val (.ref x0), .val (.int x1), .val (.long (K pp)), .second, .val (.int (Int32.ofNat tt))] [(.int (1 : Int32)), (.int x1), (.int (Int32.ofNat tt)), (.ref iA)]))
      refine own_Goes.step (fun tq kq => XS.iadd X32.here hx rfl (hb hby d10_74) rfl kq) ?_
      show own_Goes _ _ _ _ _ _ _ (T32.setTop (mkF m 75 #[.val (.ref x0), .val (.int x1), .val (.long (K pp)), .second, .val (.int (Int32.ofNat tt))] [(.int (x1 + (1 : Int32))), (.int (Int32.ofNat tt)), (.ref iA)]))
      obtain ⟨T33, h33, X33, e33, W33, st33⟩ := own_iast X32 hx hZ e32 f22 (i := tt) (own_toI (by omega)) htt (g := (mkF m 75 #[.val (.ref x0), .val (.int x1), .val (.long (K pp)), .second, .val (.int (Int32.ofNat tt))] [(.int (x1 + (1 : Int32))), (.int (Int32.ofNat tt)), (.ref iA)])) rfl rfl (hb hby d10_75)
      refine own_Goes.step st33 ?_
      have f34 := f6.wr W33
      have f35 := f7.other W33 (Or.inl m1)
      have f36 := f8.other W33 (Or.inl m1)
      have f37 := f9.other W33 (Or.inl m1)
      have f38 := f10.other W33 (Or.inl m1)
      have f39 := f11.other W33 (Or.inl m1)
      have f40 := f12.other W33 (Or.inl m1)
      have f41 := f13.other W33 (Or.inl m1)
      have f42 := f14.other W33 (Or.inl m1)
      have f43 := f15.other W33 (Or.inl m1)
      have f44 := f16.other W33 (Or.inl m1)
      have f45 := f17.other W33 (Or.inl m1)
      have f46 := f18.other W33 m2
      have f47 := f19.other W33 m3
      have f48 := f20.other W33 m4
      have f49 := f21.other W33 m5
      have f50 : own_Ar Z h33 iA .int 16 (fun uu => .int ((fun j => if j = tt then (x1 + (1 : Int32)) else S j) uu)) := (f22.set W33).congr fun j _ => by dsimp only; exact (apply_ite Value.int _ _ _).symm
      have K51 := K23.wr W33 (Or.inl (List.mem_of_getElem? (i := 1) rfl))
      have N52 := Fr.snoc X33 N24 gi
      have Z53 : n0 ≤ h33.size := Nat.le_trans Z25 (Keep.of_wr W33).1
      show own_Goes _ _ _ _ _ _ _ (T33.setTop (mkF m 76 #[.val (.ref x0), .val (.int x1), .val (.long (K pp)), .second, .val (.int (Int32.ofNat tt))] []))
      refine own_Goes.step (fun tq kq => XS.aloadN X33.here hx rfl (hb hby d10_76) rfl rfl kq) ?_
      show own_Goes _ _ _ _ _ _ _ (T33.setTop (mkF m 77 #[.val (.ref x0), .val (.int x1), .val (.long (K pp)), .second, .val (.int (Int32.ofNat tt))] [(.ref x0)]))
      refine own_Goes.step (fun tq kq => XS.dup X33.here hx rfl (hb hby d10_77) rfl rfl kq) ?_
      show own_Goes _ _ _ _ _ _ _ (T33.setTop (mkF m 78 #[.val (.ref x0), .val (.int x1), .val (.long (K pp)), .second, .val (.int (Int32.ofNat tt))] [(.ref x0), (.ref x0)]))
      obtain ⟨T54, X54, e54, st54⟩ := getF X33 hx hZ hown (host := "") (Or.inl (own_at hw 73 rfl)) Via.refl e33 f44 (g := (mkF m 78 #[.val (.ref x0), .val (.int x1), .val (.long (K pp)), .second, .val (.int (Int32.ofNat tt))] [(.ref x0), (.ref x0)])) rfl rfl (hb hby d10_78)
      refine own_Goes.step st54 ?_
      show own_Goes _ _ _ _ _ _ _ (T54.setTop (mkF m 81 #[.val (.ref x0), .val (.int x1), .val (.long (K pp)), .second, .val (.int (Int32.ofNat tt))] [(.int ix), (.ref x0)]))
      refine own_Goes.step (fun tq kq => XT.iconstV X54.here hx rfl (1 : Int32) (hb hby d10_81) (by decide) kq) ?_
      show own_Goes _ _ _ _ _ _ _ (T54.setTop (mkF m 82 #[.val (.ref x0), .val (.int x1), .val (.long (K pp)), .second, .val (.int (Int32.ofNat tt))] [(.int (1 : Int32)), (.int ix), (.ref x0)]))
      refine own_Goes.step (fun tq kq => XS.iadd X54.here hx rfl (hb hby d10_82) rfl kq) ?_
      show own_Goes _ _ _ _ _ _ _ (T54.setTop (mkF m 83 #[.val (.ref x0), .val (.int x1), .val (.long (K pp)), .second, .val (.int (Int32.ofNat tt))] [(.int (ix + (1 : Int32))), (.ref x0)]))
      obtain ⟨T55, h55, X55, e55, W55, st55⟩ := putF X54 hx hZ hown (host := "") (Or.inl (own_at hw 73 rfl)) Via.refl e54 (v := (.int (ix + (1 : Int32)))) f44 f34 (Or.inl (own_at hw 74 rfl)) (own_at hw 20 rfl) (ty := .int) (by decide) rfl rfl (g := (mkF m 83 #[.val (.ref x0), .val (.int x1), .val (.long (K pp)), .second, .val (.int (Int32.ofNat tt))] [(.int (ix + (1 : Int32))), (.ref x0)])) rfl rfl (hb hby d10_83)
      refine own_Goes.step st55 ?_
      have f56 := f34.wr W55
      have f57 := f35.other W55 (Or.inr (slot_ne (Or.inl (own_at hw 28 rfl)) (Or.inl (own_at hw 74 rfl)) (by decide) (t := (.array .long)) (t' := .int) (by decide) (by decide)))
      have f58 := f36.other W55 (Or.inr (slot_ne (Or.inl (own_at hw 30 rfl)) (Or.inl (own_at hw 74 rfl)) (by decide) (t := (.array .long)) (t' := .int) (by decide) (by decide)))
      have f59 := f37.other W55 (Or.inr (slot_ne (Or.inl (own_at hw 33 rfl)) (Or.inl (own_at hw 74 rfl)) (by decide) (t := (.array .boolean)) (t' := .int) (by decide) (by decide)))
      have f60 := f38.other W55 (Or.inr (slot_ne (Or.inl (own_at hw 36 rfl)) (Or.inl (own_at hw 74 rfl)) (by decide) (t := (.array .int)) (t' := .int) (by decide) (by decide)))
      have f61 := f39.other W55 (Or.inr (slot_ne (Or.inl (own_at hw 45 rfl)) (Or.inl (own_at hw 74 rfl)) (by decide) (t := .int) (t' := .int) (by decide) (by decide)))
      have f62 := f40.other W55 (Or.inr (slot_ne (Or.inl (own_at hw 52 rfl)) (Or.inl (own_at hw 74 rfl)) (by decide) (t := .long) (t' := .int) (by decide) (by decide)))
      have f63 := f41.other W55 (Or.inr (slot_ne (Or.inl (own_at hw 54 rfl)) (Or.inl (own_at hw 74 rfl)) (by decide) (t := .boolean) (t' := .int) (by decide) (by decide)))
      have f64 := f42.other W55 (Or.inr (slot_ne (Or.inl (own_at hw 56 rfl)) (Or.inl (own_at hw 74 rfl)) (by decide) (t := .boolean) (t' := .int) (by decide) (by decide)))
      have f65 := f43.other W55 (Or.inr (slot_ne (Or.inl (own_at hw 63 rfl)) (Or.inl (own_at hw 74 rfl)) (by decide) (t := (.array .int)) (t' := .int) (by decide) (by decide)))
      have f66 := f44.same W55
      have f67 := f45.other W55 (Or.inr (slot_ne (Or.inl (own_at hw 38 rfl)) (Or.inl (own_at hw 74 rfl)) (by decide) (t := .int) (t' := .int) (by decide) (by decide)))
      have f68 := f46.other W55 (Ne.symm n1)
      have f69 := f47.other W55 (Ne.symm n2)
      have f70 := f48.other W55 (Ne.symm n3)
      have f71 := f49.other W55 (Ne.symm n4)
      have f72 := f50.other W55 (Ne.symm m1)
      have K73 := K51.wr W55 (Or.inl (List.mem_of_getElem? (i := 0) rfl))
      have N74 := Fr.snoc X55 N52 gw0
      have Z75 : n0 ≤ h55.size := Nat.le_trans Z53 (Keep.of_wr W55).1
      show own_Goes _ _ _ _ _ _ _ (T55.setTop (mkF m 86 #[.val (.ref x0), .val (.int x1), .val (.long (K pp)), .second, .val (.int (Int32.ofNat tt))] []))
      refine own_Goes.step (fun tq kq => XS.aloadN X55.here hx rfl (hb hby d10_86) rfl rfl kq) ?_
      show own_Goes _ _ _ _ _ _ _ (T55.setTop (mkF m 87 #[.val (.ref x0), .val (.int x1), .val (.long (K pp)), .second, .val (.int (Int32.ofNat tt))] [(.ref x0)]))
      refine own_Goes.step (fun tq kq => XS.iload X55.here hx rfl (hb hby d10_87) rfl kq) ?_
      show own_Goes _ _ _ _ _ _ _ (T55.setTop (mkF m 89 #[.val (.ref x0), .val (.int x1), .val (.long (K pp)), .second, .val (.int (Int32.ofNat tt))] [(.int (Int32.ofNat tt)), (.ref x0)]))
      obtain ⟨T76, h76, X76, e76, W76, st76⟩ := putF X55 hx hZ hown (host := "") (Or.inl (own_at hw 37 rfl)) Via.refl e55 (v := (.int (Int32.ofNat tt))) f67 f56 (Or.inl (own_at hw 38 rfl)) (own_at hw 20 rfl) (ty := .int) (by decide) rfl rfl (g := (mkF m 89 #[.val (.ref x0), .val (.int x1), .val (.long (K pp)), .second, .val (.int (Int32.ofNat tt))] [(.int (Int32.ofNat tt)), (.ref x0)])) rfl rfl (hb hby d10_89)
      refine own_Goes.step st76 ?_
      have f77 := f56.wr W76
      have f78 := f57.other W76 (Or.inr (slot_ne (Or.inl (own_at hw 28 rfl)) (Or.inl (own_at hw 38 rfl)) (by decide) (t := (.array .long)) (t' := .int) (by decide) (by decide)))
      have f79 := f58.other W76 (Or.inr (slot_ne (Or.inl (own_at hw 30 rfl)) (Or.inl (own_at hw 38 rfl)) (by decide) (t := (.array .long)) (t' := .int) (by decide) (by decide)))
      have f80 := f59.other W76 (Or.inr (slot_ne (Or.inl (own_at hw 33 rfl)) (Or.inl (own_at hw 38 rfl)) (by decide) (t := (.array .boolean)) (t' := .int) (by decide) (by decide)))
      have f81 := f60.other W76 (Or.inr (slot_ne (Or.inl (own_at hw 36 rfl)) (Or.inl (own_at hw 38 rfl)) (by decide) (t := (.array .int)) (t' := .int) (by decide) (by decide)))
      have f82 := f61.other W76 (Or.inr (slot_ne (Or.inl (own_at hw 45 rfl)) (Or.inl (own_at hw 38 rfl)) (by decide) (t := .int) (t' := .int) (by decide) (by decide)))
      have f83 := f62.other W76 (Or.inr (slot_ne (Or.inl (own_at hw 52 rfl)) (Or.inl (own_at hw 38 rfl)) (by decide) (t := .long) (t' := .int) (by decide) (by decide)))
      have f84 := f63.other W76 (Or.inr (slot_ne (Or.inl (own_at hw 54 rfl)) (Or.inl (own_at hw 38 rfl)) (by decide) (t := .boolean) (t' := .int) (by decide) (by decide)))
      have f85 := f64.other W76 (Or.inr (slot_ne (Or.inl (own_at hw 56 rfl)) (Or.inl (own_at hw 38 rfl)) (by decide) (t := .boolean) (t' := .int) (by decide) (by decide)))
      have f86 := f65.other W76 (Or.inr (slot_ne (Or.inl (own_at hw 63 rfl)) (Or.inl (own_at hw 38 rfl)) (by decide) (t := (.array .int)) (t' := .int) (by decide) (by decide)))
      have f87 := f66.other W76 (Or.inr (slot_ne (Or.inl (own_at hw 74 rfl)) (Or.inl (own_at hw 38 rfl)) (by decide) (t := .int) (t' := .int) (by decide) (by decide)))
      have f88 := f67.same W76
      have f89 := f68.other W76 (Ne.symm n1)
      have f90 := f69.other W76 (Ne.symm n2)
      have f91 := f70.other W76 (Ne.symm n3)
      have f92 := f71.other W76 (Ne.symm n4)
      have f93 := f72.other W76 (Ne.symm m1)
      have K94 := K73.wr W76 (Or.inl (List.mem_of_getElem? (i := 0) rfl))
      have N95 := Fr.snoc X76 N74 gw0
      have Z96 : n0 ≤ h76.size := Nat.le_trans Z75 (Keep.of_wr W76).1
      show own_Goes _ _ _ _ _ _ _ (T76.setTop (mkF m 92 #[.val (.ref x0), .val (.int x1), .val (.long (K pp)), .second, .val (.int (Int32.ofNat tt))] []))
      refine own_endV X76 hx Bd.notSynchronized Bd.returns (hb hby d10_92) ?_ (by decide) (by decide)
      show own_F10 Z x0 x1 kA sA dA pA K Sz D cnt fs mx am la ix iA S pp tt n0 h0 _ T76.heap _
      rw [e76]
      refine ⟨rfl, N95, K94, ?_⟩
      rw [if_pos hc28]
      rw [show Int32.ofNat (pp + 1) = x1 + (1 : Int32) from by rw [← own_cnt, own_self hp]]
      exact ⟨⟨f77, f78, f79, f80, f81, f82, f83, f84, f85, f86, f87, f88, f89, f90, f91, f92, n1, n2, n3, n4, n5, n6, n7, n8, n9, n10, gw0, gw1, gw2, gw3, hmx, ham⟩, ⟨f93, m1, m2, m3, m4, m5, gi⟩⟩
    · refine own_Goes.step (fun tq kq => XS.ifNo X26.here hx rfl (hb hby d10_30) rfl (XT.i0_eq_f hc28) kq) ?_
      show own_Goes _ _ _ _ _ _ _ (T26.setTop (mkF m 33 #[.val (.ref x0), .val (.int x1), .val (.long (K pp)), .second, .val (.int (Int32.ofNat tt))] []))
      refine own_endV X26 hx Bd.notSynchronized Bd.returns (hb hby d10_33) ?_ (by decide) (by decide)
      show own_F10 Z x0 x1 kA sA dA pA K Sz D cnt fs mx am la ix iA S pp tt n0 h0 _ T26.heap _
      rw [e26]
      refine ⟨rfl, N24, K23, ?_⟩
      rw [if_neg hc28]
      exact ⟨⟨f6, f7, f8, f9, f10, f11, f12, f13, f14, f15, f16, f17, f18, f19, f20, f21, n1, n2, n3, n4, n5, n6, n7, n8, n9, n10, gw0, gw1, gw2, gw3, hmx, ham⟩, ⟨f22, m1, m2, m3, m4, m5, gi⟩⟩
  obtain ⟨t2, o2, q1, q2, q3, q4⟩ := hgo
  exact ⟨t2, o2, castTop (ef_10 m x0 x1) q1, q2, q3, q4⟩
theorem d9_0 : decode prog_67_method_8_code 0 = .ok (.bipush 16, 2) := by decide +kernel
theorem d9_2 : decode prog_67_method_8_code 2 = .ok (.istore_n 1, 1) := by decide +kernel
theorem d9_3 : decode prog_67_method_8_code 3 = .ok (.iload_n 1, 1) := by decide +kernel
theorem d9_4 : decode prog_67_method_8_code 4 = .ok (.iconst 2, 1) := by decide +kernel
theorem d9_5 : decode prog_67_method_8_code 5 = .ok (.aload_n 0, 1) := by decide +kernel
theorem d9_6 : decode prog_67_method_8_code 6 = .ok (.getfield 28, 3) := by decide +kernel
theorem d9_9 : decode prog_67_method_8_code 9 = .ok (.imul, 1) := by decide +kernel
theorem d9_10 : decode prog_67_method_8_code 10 = .ok (.if_icmp .ge 10, 3) := by decide +kernel
theorem d9_13 : decode prog_67_method_8_code 13 = .ok (.iload_n 1, 1) := by decide +kernel
theorem d9_14 : decode prog_67_method_8_code 14 = .ok (.iconst 2, 1) := by decide +kernel
theorem d9_15 : decode prog_67_method_8_code 15 = .ok (.imul, 1) := by decide +kernel
theorem d9_16 : decode prog_67_method_8_code 16 = .ok (.istore_n 1, 1) := by decide +kernel
theorem d9_17 : decode prog_67_method_8_code 17 = .ok (.goto (-14), 3) := by decide +kernel
theorem d9_20 : decode prog_67_method_8_code 20 = .ok (.aload_n 0, 1) := by decide +kernel
theorem d9_21 : decode prog_67_method_8_code 21 = .ok (.iload_n 1, 1) := by decide +kernel
theorem d9_22 : decode prog_67_method_8_code 22 = .ok (.newarray .int, 2) := by decide +kernel
theorem d9_24 : decode prog_67_method_8_code 24 = .ok (.putfield 55, 3) := by decide +kernel
theorem d9_27 : decode prog_67_method_8_code 27 = .ok (.aload_n 0, 1) := by decide +kernel
theorem d9_28 : decode prog_67_method_8_code 28 = .ok (.iconst 0, 1) := by decide +kernel
theorem d9_29 : decode prog_67_method_8_code 29 = .ok (.putfield 62, 3) := by decide +kernel
theorem d9_32 : decode prog_67_method_8_code 32 = .ok (.iconst 0, 1) := by decide +kernel
theorem d9_33 : decode prog_67_method_8_code 33 = .ok (.istore_n 2, 1) := by decide +kernel
theorem d9_34 : decode prog_67_method_8_code 34 = .ok (.iload_n 2, 1) := by decide +kernel
theorem d9_35 : decode prog_67_method_8_code 35 = .ok (.aload_n 0, 1) := by decide +kernel
theorem d9_36 : decode prog_67_method_8_code 36 = .ok (.getfield 28, 3) := by decide +kernel
theorem d9_39 : decode prog_67_method_8_code 39 = .ok (.if_icmp .ge 14, 3) := by decide +kernel
theorem d9_42 : decode prog_67_method_8_code 42 = .ok (.aload_n 0, 1) := by decide +kernel
theorem d9_43 : decode prog_67_method_8_code 43 = .ok (.iload_n 2, 1) := by decide +kernel
theorem d9_44 : decode prog_67_method_8_code 44 = .ok (.invokevirtual 58, 3) := by decide +kernel
theorem d9_47 : decode prog_67_method_8_code 47 = .ok (.iinc 2 1, 3) := by decide +kernel
theorem d9_50 : decode prog_67_method_8_code 50 = .ok (.goto (-16), 3) := by decide +kernel
theorem d9_53 : decode prog_67_method_8_code 53 = .ok (.return_, 1) := by decide +kernel
theorem pn_9 : plainName "com/example/strati/strati/sim/WriteBuffer" = true := by first | (simp [plainName, overriddenIn]; done) | decide +kernel
theorem pd_9 : parseMethodDescriptor "()V" = some ⟨[], none⟩ := by decide +kernel
theorem ef_9 (m : MethodId) (x0 : Addr) : entryFrame m #[(.ref x0)] 3 = mkF m 0 #[.val (.ref x0), .unset, .unset] [] := by first | (simp [entryFrame, mkF, argsToLocals, Value.category]; done) | rfl
def own_F9 (Z : State) (x0 : Addr) (kA sA dA pA : Addr) (K Sz : Nat → Int64) (D : Nat → Int32) (cnt : Nat) (fs : Int64) (mx am la : Int32) (ix : Int32) (n0 : Nat) (h0 : Heap) (v : Option Value) (h : Heap) (L : List Loc) : Prop := v = none ∧ Fr n0 L ∧ Keep h0 h [x0] ∧ ∃ (iA : Addr) (S : Nat → Int32) (ixn : Nat) (lb : Int32), own_bld K la cnt = some (S, ixn, lb) ∧ h0.size ≤ iA ∧ own_W Z h n0 x0 kA sA dA pA (.ref iA) K Sz D cnt fs mx am (Int32.ofNat ixn) lb ∧ own_I Z h n0 x0 kA sA dA pA iA S
set_option maxRecDepth 65536 in
set_option maxHeartbeats 40000000 in
theorem own_m9 (l : Launch) (Z : State) (a0 : Array Value) (hw : ∀ d ∈ tables_1, d.before a0 Z = true) (ws : List Jvm.Cond) (x0 : Addr) (kA sA dA pA : Addr) (K Sz : Nat → Int64) (D : Nat → Int32) (cnt : Nat) (fs : Int64) (mx am la : Int32) (ix : Int32) (n0 : Nat) (h0 : Heap)  (B : own_W Z h0 n0 x0 kA sA dA pA .null K Sz D cnt fs mx am ix la) (hc3 : cnt ≤ 3) :
    MetFree l (⟨"com/example/strati/strati/sim/WriteBuffer", "buildIndex", "()V"⟩ : MethodName) (head1 (Jvm.Cond.code (⟨"com/example/strati/strati/sim/WriteBuffer", "buildIndex", "()V"⟩ : MethodName) prog_67_method_8_code 3 none :: ws) ({ frames := 3, cells := 1, slots := 16, locals := 46 } : Room)) (fun a U => a = #[(.ref x0)] ∧ Z.Warmed39 U.vm ∧ U.heap = h0) (fun _ _ _ _ _ => True) (fun _ U o U' => ∃ v L, o = .returned v ∧ own_F9 Z x0 kA sA dA pA K Sz D cnt fs mx am la ix n0 h0 v U'.heap L ∧ FrameEnd U o U' L ({ frames := 3, cells := 1, slots := 16, locals := 46 } : Room).cells ({ frames := 3, cells := 1, slots := 16, locals := 46 } : Room).slots) := by
  refine MetFree.of_bodySF (plainFor_of_name pn_9) hisR ?_
  intro p e s m args below meth c s₁ Bd hml0 hP hK
  obtain ⟨rfl, hZ, hh⟩ := hP
  have hx := Bd.exec
  have hby := Bd.bytes
  have hml : c.maxLocals = 3 := hml0
  have hown : s.vm.findClass "com/example/strati/strati/sim/WriteBuffer" = some m.cls := findClass_of_methodNamed Bd.named
  have hnm := (name_of_methodNamed Bd.named Bd.method).1
  have X0 : Stand p l e ({ frames := 3, cells := 1, slots := 16, locals := 46 } : Room) s m #[(.ref x0)] below meth c s₁ [] 0 0 := Stand.of_body Bd
  have e0 : s₁.heap = h0 := by rw [← hh, Bd.state]; rfl
  obtain ⟨E0, P0, P1, P2, P3, P4, P5, P6, P7, P8, P9, P10, R0, R1, R2, R3, n1, n2, n3, n4, n5, n6, n7, n8, n9, n10, gw0, gw1, gw2, gw3, hmx, ham⟩ := B
  have Z0 : n0 ≤ h0.size := Nat.le_trans gw0 (Nat.le_of_lt E0.lt)
  have N0 := Fr.nil n0
  have K0 : Keep h0 h0 [x0] := Keep.refl h0 [x0]
  have hgo : own_Goes p e below s (own_F9 Z x0 kA sA dA pA K Sz D cnt fs mx am la ix n0 h0) 1 16 (s₁.setTop (mkF m 0 #[.val (.ref x0), .unset, .unset] [])) := by
    refine own_Goes.step (fun tq kq => XT.bipushV X0.here hx rfl (16 : Int32) (hb hby d9_0) (by decide) kq) ?_
    show own_Goes _ _ _ _ _ _ _ (s₁.setTop (mkF m 2 #[.val (.ref x0), .unset, .unset] [(.int (16 : Int32))]))
    refine own_Goes.step (fun tq kq => XS.istoreN X0.here hx rfl (hb hby d9_2) rfl (l' := #[.val (.ref x0), .val (.int (16 : Int32)), .unset]) rfl kq) ?_
    show own_Goes _ _ _ _ _ _ _ (s₁.setTop (mkF m 3 #[.val (.ref x0), .val (.int (16 : Int32)), .unset] []))
    refine own_Goes.step (fun tq kq => XS.iloadN X0.here hx rfl (hb hby d9_3) rfl kq) ?_
    show own_Goes _ _ _ _ _ _ _ (s₁.setTop (mkF m 4 #[.val (.ref x0), .val (.int (16 : Int32)), .unset] [(.int (16 : Int32))]))
    refine own_Goes.step (fun tq kq => XT.iconstV X0.here hx rfl (2 : Int32) (hb hby d9_4) (by decide) kq) ?_
    show own_Goes _ _ _ _ _ _ _ (s₁.setTop (mkF m 5 #[.val (.ref x0), .val (.int (16 : Int32)), .unset] [(.int (2 : Int32)), (.int (16 : Int32))]))
    refine own_Goes.step (fun tq kq => XS.aloadN X0.here hx rfl (hb hby d9_5) rfl rfl kq) ?_
    show own_Goes _ _ _ _ _ _ _ (s₁.setTop (mkF m 6 #[.val (.ref x0), .val (.int (16 : Int32)), .unset] [(.ref x0), (.int (2 : Int32)), (.int (16 : Int32))]))
    obtain ⟨T1, X1, e1, st1⟩ := getF X0 hx hZ hown (host := "") (Or.inl (own_at hw 44 rfl)) Via.refl e0 P4 (g := (mkF m 6 #[.val (.ref x0), .val (.int (16 : Int32)), .unset] [(.ref x0), (.int (2 : Int32)), (.int (16 : Int32))])) rfl rfl (hb hby d9_6)
    refine own_Goes.step st1 ?_
    show own_Goes _ _ _ _ _ _ _ (T1.setTop (mkF m 9 #[.val (.ref x0), .val (.int (16 : Int32)), .unset] [(.int (Int32.ofNat cnt)), (.int (2 : Int32)), (.int (16 : Int32))]))
    refine own_Goes.step (fun tq kq => XS.imul X1.here hx rfl (hb hby d9_9) rfl kq) ?_
    show own_Goes _ _ _ _ _ _ _ (T1.setTop (mkF m 10 #[.val (.ref x0), .val (.int (16 : Int32)), .unset] [(.int ((2 : Int32) * (Int32.ofNat cnt))), (.int (16 : Int32))]))
    refine own_Goes.step (fun tq kq => XS.icmpYes X1.here hx rfl (pc0 := 10) (pc' := 20) rfl (hb hby d9_10) rfl (XT.ii_ge_t (own_room16 hc3)) (by decide) (by decide) kq) ?_
    show own_Goes _ _ _ _ _ _ _ (T1.setTop (mkF m 20 #[.val (.ref x0), .val (.int (16 : Int32)), .unset] []))
    refine own_Goes.step (fun tq kq => XS.aloadN X1.here hx rfl (hb hby d9_20) rfl rfl kq) ?_
    show own_Goes _ _ _ _ _ _ _ (T1.setTop (mkF m 21 #[.val (.ref x0), .val (.int (16 : Int32)), .unset] [(.ref x0)]))
    refine own_Goes.step (fun tq kq => XS.iloadN X1.here hx rfl (hb hby d9_21) rfl kq) ?_
    show own_Goes _ _ _ _ _ _ _ (T1.setTop (mkF m 22 #[.val (.ref x0), .val (.int (16 : Int32)), .unset] [(.int (16 : Int32)), (.ref x0)]))
    obtain ⟨T2, h2, k2, X2, e2, E2, A2, st2⟩ := newP X1 hx hZ (own_at hw 34 rfl) e1 (g := (mkF m 22 #[.val (.ref x0), .val (.int (16 : Int32)), .unset] [(.int (16 : Int32)), (.ref x0)])) rfl (hb hby d9_22) rfl (by decide) (cap := 16) (by decide) (by decide) (by decide) (by decide)
    obtain ⟨a2, g2⟩ : ∃ z, z = h0.size := ⟨_, rfl⟩
    rw [← g2] at A2 st2
    have ne3 : x0 ≠ a2 := by rw [g2]; exact Nat.ne_of_lt E0.lt
    have ne4 : kA ≠ a2 := by rw [g2]; exact Nat.ne_of_lt R0.lt
    have ne5 : sA ≠ a2 := by rw [g2]; exact Nat.ne_of_lt R1.lt
    have ne6 : dA ≠ a2 := by rw [g2]; exact Nat.ne_of_lt R2.lt
    have ne7 : pA ≠ a2 := by rw [g2]; exact Nat.ne_of_lt R3.lt
    have f8 := Jvm.RoadKit.Exa.ext E2 E0
    have f9 := Jvm.RoadKit.Fld.ext E2 P0
    have f10 := Jvm.RoadKit.Fld.ext E2 P1
    have f11 := Jvm.RoadKit.Fld.ext E2 P2
    have f12 := Jvm.RoadKit.Fld.ext E2 P3
    have f13 := Jvm.RoadKit.Fld.ext E2 P4
    have f14 := Jvm.RoadKit.Fld.ext E2 P5
    have f15 := Jvm.RoadKit.Fld.ext E2 P6
    have f16 := Jvm.RoadKit.Fld.ext E2 P7
    have f17 := Jvm.RoadKit.Fld.ext E2 P8
    have f18 := Jvm.RoadKit.Fld.ext E2 P9
    have f19 := Jvm.RoadKit.Fld.ext E2 P10
    have f20 := R0.ext E2
    have f21 := R1.ext E2
    have f22 := R2.ext E2
    have f23 := R3.ext E2
    have r2 : own_Ar Z h2 a2 .int 16 (fun uu => .int ((fun _ => (0 : Int32)) uu)) := own_Ar.new A2
    have ga2 : n0 ≤ a2 := Nat.le_trans Z0 (Nat.le_of_eq g2.symm)
    have Z2 : n0 ≤ h2.size := Nat.le_trans Z0 E2.1
    have K2 := K0.ext E2
    have Kh2 : h0.size ≤ a2 := Nat.le_trans K0.1 (Nat.le_of_eq g2.symm)
    refine own_Goes.step st2 ?_
    show own_Goes _ _ _ _ _ _ _ (T2.setTop (mkF m 24 #[.val (.ref x0), .val (.int (16 : Int32)), .unset] [(.ref a2), (.ref x0)]))
    obtain ⟨T24, h24, X24, e24, W24, st24⟩ := putF X2 hx hZ hown (host := "") (Or.inl (own_at hw 62 rfl)) Via.refl e2 (v := (.ref a2)) f17 f8 (Or.inl (own_at hw 63 rfl)) (own_at hw 20 rfl) (ty := (.array .int)) (by decide) rfl rfl (g := (mkF m 24 #[.val (.ref x0), .val (.int (16 : Int32)), .unset] [(.ref a2), (.ref x0)])) rfl rfl (hb hby d9_24)
    refine own_Goes.step st24 ?_
    have f25 := f8.wr W24
    have f26 := f9.other W24 (Or.inr (slot_ne (Or.inl (own_at hw 28 rfl)) (Or.inl (own_at hw 63 rfl)) (by decide) (t := (.array .long)) (t' := (.array .int)) (by decide) (by decide)))
    have f27 := f10.other W24 (Or.inr (slot_ne (Or.inl (own_at hw 30 rfl)) (Or.inl (own_at hw 63 rfl)) (by decide) (t := (.array .long)) (t' := (.array .int)) (by decide) (by decide)))
    have f28 := f11.other W24 (Or.inr (slot_ne (Or.inl (own_at hw 33 rfl)) (Or.inl (own_at hw 63 rfl)) (by decide) (t := (.array .boolean)) (t' := (.array .int)) (by decide) (by decide)))
    have f29 := f12.other W24 (Or.inr (slot_ne (Or.inl (own_at hw 36 rfl)) (Or.inl (own_at hw 63 rfl)) (by decide) (t := (.array .int)) (t' := (.array .int)) (by decide) (by decide)))
    have f30 := f13.other W24 (Or.inr (slot_ne (Or.inl (own_at hw 45 rfl)) (Or.inl (own_at hw 63 rfl)) (by decide) (t := .int) (t' := (.array .int)) (by decide) (by decide)))
    have f31 := f14.other W24 (Or.inr (slot_ne (Or.inl (own_at hw 52 rfl)) (Or.inl (own_at hw 63 rfl)) (by decide) (t := .long) (t' := (.array .int)) (by decide) (by decide)))
    have f32 := f15.other W24 (Or.inr (slot_ne (Or.inl (own_at hw 54 rfl)) (Or.inl (own_at hw 63 rfl)) (by decide) (t := .boolean) (t' := (.array .int)) (by decide) (by decide)))
    have f33 := f16.other W24 (Or.inr (slot_ne (Or.inl (own_at hw 56 rfl)) (Or.inl (own_at hw 63 rfl)) (by decide) (t := .boolean) (t' := (.array .int)) (by decide) (by decide)))
    have f34 := f17.same W24
    have f35 := f18.other W24 (Or.inr (slot_ne (Or.inl (own_at hw 74 rfl)) (Or.inl (own_at hw 63 rfl)) (by decide) (t := .int) (t' := (.array .int)) (by decide) (by decide)))
    have f36 := f19.other W24 (Or.inr (slot_ne (Or.inl (own_at hw 38 rfl)) (Or.inl (own_at hw 63 rfl)) (by decide) (t := .int) (t' := (.array .int)) (by decide) (by decide)))
    have f37 := f20.other W24 (Ne.symm n1)
    have f38 := f21.other W24 (Ne.symm n2)
    have f39 := f22.other W24 (Ne.symm n3)
    have f40 := f23.other W24 (Ne.symm n4)
    have f41 := r2.other W24 (Ne.symm ne3)
    have K42 := K2.wr W24 (Or.inl (List.mem_of_getElem? (i := 0) rfl))
    have N43 := Fr.snoc X24 N0 gw0
    have Z44 : n0 ≤ h24.size := Nat.le_trans Z2 (Keep.of_wr W24).1
    show own_Goes _ _ _ _ _ _ _ (T24.setTop (mkF m 27 #[.val (.ref x0), .val (.int (16 : Int32)), .unset] []))
    refine own_Goes.step (fun tq kq => XS.aloadN X24.here hx rfl (hb hby d9_27) rfl rfl kq) ?_
    show own_Goes _ _ _ _ _ _ _ (T24.setTop (mkF m 28 #[.val (.ref x0), .val (.int (16 : Int32)), .unset] [(.ref x0)]))
    refine own_Goes.step (fun tq kq => XT.iconstV X24.here hx rfl (0 : Int32) (hb hby d9_28) (by decide) kq) ?_
    show own_Goes _ _ _ _ _ _ _ (T24.setTop (mkF m 29 #[.val (.ref x0), .val (.int (16 : Int32)), .unset] [(.int (0 : Int32)), (.ref x0)]))
    obtain ⟨T45, h45, X45, e45, W45, st45⟩ := putF X24 hx hZ hown (host := "") (Or.inl (own_at hw 73 rfl)) Via.refl e24 (v := (.int (0 : Int32))) f35 f25 (Or.inl (own_at hw 74 rfl)) (own_at hw 20 rfl) (ty := .int) (by decide) rfl rfl (g := (mkF m 29 #[.val (.ref x0), .val (.int (16 : Int32)), .unset] [(.int (0 : Int32)), (.ref x0)])) rfl rfl (hb hby d9_29)
    refine own_Goes.step st45 ?_
    have f46 := f25.wr W45
    have f47 := f26.other W45 (Or.inr (slot_ne (Or.inl (own_at hw 28 rfl)) (Or.inl (own_at hw 74 rfl)) (by decide) (t := (.array .long)) (t' := .int) (by decide) (by decide)))
    have f48 := f27.other W45 (Or.inr (slot_ne (Or.inl (own_at hw 30 rfl)) (Or.inl (own_at hw 74 rfl)) (by decide) (t := (.array .long)) (t' := .int) (by decide) (by decide)))
    have f49 := f28.other W45 (Or.inr (slot_ne (Or.inl (own_at hw 33 rfl)) (Or.inl (own_at hw 74 rfl)) (by decide) (t := (.array .boolean)) (t' := .int) (by decide) (by decide)))
    have f50 := f29.other W45 (Or.inr (slot_ne (Or.inl (own_at hw 36 rfl)) (Or.inl (own_at hw 74 rfl)) (by decide) (t := (.array .int)) (t' := .int) (by decide) (by decide)))
    have f51 := f30.other W45 (Or.inr (slot_ne (Or.inl (own_at hw 45 rfl)) (Or.inl (own_at hw 74 rfl)) (by decide) (t := .int) (t' := .int) (by decide) (by decide)))
    have f52 := f31.other W45 (Or.inr (slot_ne (Or.inl (own_at hw 52 rfl)) (Or.inl (own_at hw 74 rfl)) (by decide) (t := .long) (t' := .int) (by decide) (by decide)))
    have f53 := f32.other W45 (Or.inr (slot_ne (Or.inl (own_at hw 54 rfl)) (Or.inl (own_at hw 74 rfl)) (by decide) (t := .boolean) (t' := .int) (by decide) (by decide)))
    have f54 := f33.other W45 (Or.inr (slot_ne (Or.inl (own_at hw 56 rfl)) (Or.inl (own_at hw 74 rfl)) (by decide) (t := .boolean) (t' := .int) (by decide) (by decide)))
    have f55 := f34.other W45 (Or.inr (slot_ne (Or.inl (own_at hw 63 rfl)) (Or.inl (own_at hw 74 rfl)) (by decide) (t := (.array .int)) (t' := .int) (by decide) (by decide)))
    have f56 := f35.same W45
    have f57 := f36.other W45 (Or.inr (slot_ne (Or.inl (own_at hw 38 rfl)) (Or.inl (own_at hw 74 rfl)) (by decide) (t := .int) (t' := .int) (by decide) (by decide)))
    have f58 := f37.other W45 (Ne.symm n1)
    have f59 := f38.other W45 (Ne.symm n2)
    have f60 := f39.other W45 (Ne.symm n3)
    have f61 := f40.other W45 (Ne.symm n4)
    have f62 := f41.other W45 (Ne.symm ne3)
    have K63 := K42.wr W45 (Or.inl (List.mem_of_getElem? (i := 0) rfl))
    have N64 := Fr.snoc X45 N43 gw0
    have Z65 : n0 ≤ h45.size := Nat.le_trans Z44 (Keep.of_wr W45).1
    show own_Goes _ _ _ _ _ _ _ (T45.setTop (mkF m 32 #[.val (.ref x0), .val (.int (16 : Int32)), .unset] []))
    refine own_Goes.step (fun tq kq => XT.iconstV X45.here hx rfl (0 : Int32) (hb hby d9_32) (by decide) kq) ?_
    show own_Goes _ _ _ _ _ _ _ (T45.setTop (mkF m 33 #[.val (.ref x0), .val (.int (16 : Int32)), .unset] [(.int (0 : Int32))]))
    refine own_Goes.step (fun tq kq => XS.istoreN X45.here hx rfl (hb hby d9_33) rfl (l' := #[.val (.ref x0), .val (.int (16 : Int32)), .val (.int (0 : Int32))]) rfl kq) ?_
    show own_Goes _ _ _ _ _ _ _ (T45.setTop (mkF m 34 #[.val (.ref x0), .val (.int (16 : Int32)), .val (.int (0 : Int32))] []))
    have hiA : h0.size ≤ a2 := Kh2
    have loop : ∀ (k j : Nat) (jv : Int32) (S : Nat → Int32) (ixn : Nat) (lb : Int32) (T : State) (lc : List Loc) (h : Heap) (X : Stand p l e ({ frames := 3, cells := 1, slots := 16, locals := 46 } : Room) s m #[(.ref x0)] below meth c T lc (0 + 1) (0 + 16)) (eT : T.heap = h) (BB : own_W Z h n0 x0 kA sA dA pA (.ref a2) K Sz D cnt fs mx am (Int32.ofNat ixn) lb) (II : own_I Z h n0 x0 kA sA dA pA a2 S) (NN : Fr n0 lc) (KK : Keep h0 h [x0]), jv.toInt = (j : Nat) → j + k = cnt → own_bld K la j = some (S, ixn, lb) → own_Goes p e below s (own_F9 Z x0 kA sA dA pA K Sz D cnt fs mx am la ix n0 h0) 1 16 (T.setTop (mkF m 34 #[.val (.ref x0), .val (.int (16 : Int32)), .val (.int jv)] [])) := by
      intro k
      induction k with
      | zero =>
        intro j jv S ixn lb T lc h X eT BB II NN KK hj hk hbl
        have hge : ¬ jv < Int32.ofNat cnt := by rw [own_lt32, own_toI (by omega)]; omega
        have hjc : j = cnt := by omega
        refine own_Goes.step (fun tq kq => XS.iloadN X.here hx rfl (hb hby d9_34) rfl kq) ?_
        show own_Goes _ _ _ _ _ _ _ (T.setTop (mkF m 35 #[.val (.ref x0), .val (.int (16 : Int32)), .val (.int jv)] [(.int jv)]))
        refine own_Goes.step (fun tq kq => XS.aloadN X.here hx rfl (hb hby d9_35) rfl rfl kq) ?_
        show own_Goes _ _ _ _ _ _ _ (T.setTop (mkF m 36 #[.val (.ref x0), .val (.int (16 : Int32)), .val (.int jv)] [(.ref x0), (.int jv)]))
        obtain ⟨T66, X66, e66, st66⟩ := getF X hx hZ hown (host := "") (Or.inl (own_at hw 44 rfl)) Via.refl eT (own_W.count BB) (g := (mkF m 36 #[.val (.ref x0), .val (.int (16 : Int32)), .val (.int jv)] [(.ref x0), (.int jv)])) rfl rfl (hb hby d9_36)
        refine own_Goes.step st66 ?_
        show own_Goes _ _ _ _ _ _ _ (T66.setTop (mkF m 39 #[.val (.ref x0), .val (.int (16 : Int32)), .val (.int jv)] [(.int (Int32.ofNat cnt)), (.int jv)]))
        refine own_Goes.step (fun tq kq => XS.icmpYes X66.here hx rfl (pc0 := 39) (pc' := 53) rfl (hb hby d9_39) rfl (XT.ii_ge_t (hge)) (by decide) (by decide) kq) ?_
        show own_Goes _ _ _ _ _ _ _ (T66.setTop (mkF m 53 #[.val (.ref x0), .val (.int (16 : Int32)), .val (.int jv)] []))
        refine own_endV X66 hx Bd.notSynchronized Bd.returns (hb hby d9_53) ?_ (by decide) (by decide)
        show own_F9 Z x0 kA sA dA pA K Sz D cnt fs mx am la ix n0 h0 _ T66.heap _
        rw [e66]
        subst hjc
        exact ⟨rfl, NN, KK, a2, S, ixn, lb, hbl, hiA, BB, II⟩
      | succ k ih =>
        intro j jv S ixn lb T lc h X eT BB II NN KK hj hk hbl
        have hlt : jv < Int32.ofNat cnt := by rw [own_lt32, own_toI (by omega)]; omega
        have IV := own_bld_inv (K := K) (la := la) (n := j) (by omega) hbl
        obtain ⟨tt, htt, hm⟩ := IV.find (by omega) (K j)
        refine own_Goes.step (fun tq kq => XS.iloadN X.here hx rfl (hb hby d9_34) rfl kq) ?_
        show own_Goes _ _ _ _ _ _ _ (T.setTop (mkF m 35 #[.val (.ref x0), .val (.int (16 : Int32)), .val (.int jv)] [(.int jv)]))
        refine own_Goes.step (fun tq kq => XS.aloadN X.here hx rfl (hb hby d9_35) rfl rfl kq) ?_
        show own_Goes _ _ _ _ _ _ _ (T.setTop (mkF m 36 #[.val (.ref x0), .val (.int (16 : Int32)), .val (.int jv)] [(.ref x0), (.int jv)]))
        obtain ⟨T67, X67, e67, st67⟩ := getF X hx hZ hown (host := "") (Or.inl (own_at hw 44 rfl)) Via.refl eT (own_W.count BB) (g := (mkF m 36 #[.val (.ref x0), .val (.int (16 : Int32)), .val (.int jv)] [(.ref x0), (.int jv)])) rfl rfl (hb hby d9_36)
        refine own_Goes.step st67 ?_
        show own_Goes _ _ _ _ _ _ _ (T67.setTop (mkF m 39 #[.val (.ref x0), .val (.int (16 : Int32)), .val (.int jv)] [(.int (Int32.ofNat cnt)), (.int jv)]))
        refine own_Goes.step (fun tq kq => XS.icmpNo X67.here hx rfl (hb hby d9_39) rfl (XT.ii_ge_f (hlt)) kq) ?_
        show own_Goes _ _ _ _ _ _ _ (T67.setTop (mkF m 42 #[.val (.ref x0), .val (.int (16 : Int32)), .val (.int jv)] []))
        refine own_Goes.step (fun tq kq => XS.aloadN X67.here hx rfl (hb hby d9_42) rfl rfl kq) ?_
        show own_Goes _ _ _ _ _ _ _ (T67.setTop (mkF m 43 #[.val (.ref x0), .val (.int (16 : Int32)), .val (.int jv)] [(.ref x0)]))
        refine own_Goes.step (fun tq kq => XS.iloadN X67.here hx rfl (hb hby d9_43) rfl kq) ?_
        show own_Goes _ _ _ _ _ _ _ (T67.setTop (mkF m 44 #[.val (.ref x0), .val (.int (16 : Int32)), .val (.int jv)] [(.int jv), (.ref x0)]))
        obtain ⟨w68, T68, L68, q68, Y68, st68⟩ := own_priv X67 hx hZ e67 (own_W.exa BB) hown (own_at hw 75 rfl) (own_at hw 77 rfl) (own_at hw 20 rfl) (own_at hw 76 rfl) (own_at hw 21 rfl) (own_at hw 78 rfl) (by decide) (own_m10 l Z a0 hw [] x0 jv kA sA dA pA K Sz D cnt fs mx am lb (Int32.ofNat ixn) a2 S j tt n0 h BB II (IV.1.ok (by omega)) hj (by omega) hm htt (own_ix8 (by have := IV.2.1; omega))) (by decide) (W := 0) (by decide) (by decide) (by decide) (g := (mkF m 44 #[.val (.ref x0), .val (.int (16 : Int32)), .val (.int jv)] [(.int jv), (.ref x0)])) rfl (by rw [hml]; rfl) (argsL := [(.int jv)]) (rest := []) (lenOf pd_10 rfl) rfl (by show 2 * 0 + _ ≤ _; exact Nat.le_of_eq rfl) (hb hby d9_44)
        obtain ⟨rfl, N68, K68, hif68⟩ := q68
        have Nn68 := Fr.app NN N68
        have KK2 := KK.trans K68 (own_kt2 hiA)
        obtain ⟨S2, ix2, la2, hb2, B2, I2⟩ := own_bnext hbl hm (fun S ix la => own_W Z T68.heap n0 x0 kA sA dA pA (.ref a2) K Sz D cnt fs mx am ix la ∧ own_I Z T68.heap n0 x0 kA sA dA pA a2 S) hif68
        refine own_Goes.step st68 ?_
        show own_Goes _ _ _ _ _ _ _ (T68.setTop (mkF m 47 #[.val (.ref x0), .val (.int (16 : Int32)), .val (.int jv)] []))
        refine own_Goes.step (fun tq kq => XT.iincV Y68.here hx rfl (1 : Int32) (hb hby d9_47) (by decide) rfl (l' := #[.val (.ref x0), .val (.int (16 : Int32)), .val (.int (jv + (1 : Int32)))]) rfl kq) ?_
        show own_Goes _ _ _ _ _ _ _ (T68.setTop (mkF m 50 #[.val (.ref x0), .val (.int (16 : Int32)), .val (.int (jv + (1 : Int32)))] []))
        refine own_Goes.step (fun tq kq => XS.goto Y68.here hx rfl (pc0 := 50) (pc' := 34) rfl (hb hby d9_50) (by decide) (by decide) kq) ?_
        show own_Goes _ _ _ _ _ _ _ (T68.setTop (mkF m 34 #[.val (.ref x0), .val (.int (16 : Int32)), .val (.int (jv + (1 : Int32)))] []))
        exact ih (j + 1) _ S2 ix2 la2 T68 _ _ Y68 rfl B2 I2 Nn68 KK2 (own_inc hj (by omega)) (by omega) hb2
    exact loop cnt 0 _ (fun _ => 0) 0 la T45 _ h45 X45 e45 ⟨f46, f47, f48, f49, f50, f51, f52, f53, f54, f55, f56, f57, f58, f59, f60, f61, n1, n2, n3, n4, n5, n6, n7, n8, n9, n10, gw0, gw1, gw2, gw3, hmx, ham⟩ ⟨f62, ne3, ne4, ne5, ne6, ne7, ga2⟩ N64 K63 rfl (by omega) rfl
  obtain ⟨t2, o2, q1, q2, q3, q4⟩ := hgo
  exact ⟨t2, o2, castTop (ef_9 m x0) q1, q2, q3, q4⟩
theorem d8_0 : decode prog_67_method_4_code 0 = .ok (.aload_n 0, 1) := by decide +kernel
theorem d8_1 : decode prog_67_method_4_code 1 = .ok (.getfield 55, 3) := by decide +kernel
theorem d8_4 : decode prog_67_method_4_code 4 = .ok (.ifnonnull 7, 3) := by decide +kernel
theorem d8_7 : decode prog_67_method_4_code 7 = .ok (.aload_n 0, 1) := by decide +kernel
theorem d8_8 : decode prog_67_method_4_code 8 = .ok (.invokevirtual 65, 3) := by decide +kernel
theorem d8_11 : decode prog_67_method_4_code 11 = .ok (.aload_n 0, 1) := by decide +kernel
theorem d8_12 : decode prog_67_method_4_code 12 = .ok (.getfield 55, 3) := by decide +kernel
theorem d8_15 : decode prog_67_method_4_code 15 = .ok (.aload_n 0, 1) := by decide +kernel
theorem d8_16 : decode prog_67_method_4_code 16 = .ok (.aload_n 0, 1) := by decide +kernel
theorem d8_17 : decode prog_67_method_4_code 17 = .ok (.getfield 55, 3) := by decide +kernel
theorem d8_20 : decode prog_67_method_4_code 20 = .ok (.lload_n 1, 1) := by decide +kernel
theorem d8_21 : decode prog_67_method_4_code 21 = .ok (.invokevirtual 68, 3) := by decide +kernel
theorem d8_24 : decode prog_67_method_4_code 24 = .ok (.iaload, 1) := by decide +kernel
theorem d8_25 : decode prog_67_method_4_code 25 = .ok (.ifCond .eq 7, 3) := by decide +kernel
theorem d8_28 : decode prog_67_method_4_code 28 = .ok (.iconst 1, 1) := by decide +kernel
theorem d8_29 : decode prog_67_method_4_code 29 = .ok (.goto 4, 3) := by decide +kernel
theorem d8_32 : decode prog_67_method_4_code 32 = .ok (.iconst 0, 1) := by decide +kernel
theorem d8_33 : decode prog_67_method_4_code 33 = .ok (.ireturn, 1) := by decide +kernel
theorem pn_8 : plainName "com/example/strati/strati/sim/WriteBuffer" = true := by first | (simp [plainName, overriddenIn]; done) | decide +kernel
theorem pd_8 : parseMethodDescriptor "(J)Z" = some ⟨[.long], (some .boolean)⟩ := by decide +kernel
theorem ef_8 (m : MethodId) (x0 : Addr) (x1 : Int64) : entryFrame m #[(.ref x0), (.long x1)] 3 = mkF m 0 #[.val (.ref x0), .val (.long x1), .second] [] := by first | (simp [entryFrame, mkF, argsToLocals, Value.category]; done) | rfl
def own_F8n (Z : State) (x0 : Addr) (x1 : Int64) (kA sA dA pA : Addr) (K Sz : Nat → Int64) (D : Nat → Int32) (cnt : Nat) (fs : Int64) (mx am la : Int32) (ix : Int32) (n0 : Nat) (h0 : Heap) (v : Option Value) (h : Heap) (L : List Loc) : Prop := v = some (.int (own_bi (own_mem K cnt x1))) ∧ Fr n0 L ∧ Keep h0 h [x0] ∧ ∃ (iA : Addr) (S : Nat → Int32) (ixn : Nat) (lb : Int32), own_bld K la cnt = some (S, ixn, lb) ∧ h0.size ≤ iA ∧ own_W Z h n0 x0 kA sA dA pA (.ref iA) K Sz D cnt fs mx am (Int32.ofNat ixn) lb ∧ own_I Z h n0 x0 kA sA dA pA iA S
set_option maxRecDepth 65536 in
set_option maxHeartbeats 40000000 in
theorem own_m8n (l : Launch) (Z : State) (a0 : Array Value) (hw : ∀ d ∈ tables_1, d.before a0 Z = true) (ws : List Jvm.Cond) (x0 : Addr) (x1 : Int64) (kA sA dA pA : Addr) (K Sz : Nat → Int64) (D : Nat → Int32) (cnt : Nat) (fs : Int64) (mx am la : Int32) (ix : Int32) (n0 : Nat) (h0 : Heap)  (B : own_W Z h0 n0 x0 kA sA dA pA .null K Sz D cnt fs mx am ix la) (hc3 : cnt ≤ 3) :
    MetFree l (⟨"com/example/strati/strati/sim/WriteBuffer", "holds", "(J)Z"⟩ : MethodName) (head1 (Jvm.Cond.code (⟨"com/example/strati/strati/sim/WriteBuffer", "holds", "(J)Z"⟩ : MethodName) prog_67_method_4_code 3 (some .boolean) :: ws) ({ frames := 4, cells := 1, slots := 16, locals := 60 } : Room)) (fun a U => a = #[(.ref x0), (.long x1)] ∧ Z.Warmed39 U.vm ∧ U.heap = h0) (fun _ _ _ _ _ => True) (fun _ U o U' => ∃ v L, o = .returned v ∧ own_F8n Z x0 x1 kA sA dA pA K Sz D cnt fs mx am la ix n0 h0 v U'.heap L ∧ FrameEnd U o U' L ({ frames := 4, cells := 1, slots := 16, locals := 60 } : Room).cells ({ frames := 4, cells := 1, slots := 16, locals := 60 } : Room).slots) := by
  refine MetFree.of_bodySF (plainFor_of_name pn_8) hisR ?_
  intro p e s m args below meth c s₁ Bd hml0 hP hK
  obtain ⟨rfl, hZ, hh⟩ := hP
  have hx := Bd.exec
  have hby := Bd.bytes
  have hml : c.maxLocals = 3 := hml0
  have hown : s.vm.findClass "com/example/strati/strati/sim/WriteBuffer" = some m.cls := findClass_of_methodNamed Bd.named
  have hnm := (name_of_methodNamed Bd.named Bd.method).1
  have X0 : Stand p l e ({ frames := 4, cells := 1, slots := 16, locals := 60 } : Room) s m #[(.ref x0), (.long x1)] below meth c s₁ [] 0 0 := Stand.of_body Bd
  have e0 : s₁.heap = h0 := by rw [← hh, Bd.state]; rfl
  have BC := B
  obtain ⟨E0, P0, P1, P2, P3, P4, P5, P6, P7, P8, P9, P10, R0, R1, R2, R3, n1, n2, n3, n4, n5, n6, n7, n8, n9, n10, gw0, gw1, gw2, gw3, hmx, ham⟩ := BC
  have Z0 : n0 ≤ h0.size := Nat.le_trans gw0 (Nat.le_of_lt E0.lt)
  have N0 := Fr.nil n0
  have K0 : Keep h0 h0 [x0] := Keep.refl h0 [x0]
  have hgo : own_Goes p e below s (own_F8n Z x0 x1 kA sA dA pA K Sz D cnt fs mx am la ix n0 h0) 1 16 (s₁.setTop (mkF m 0 #[.val (.ref x0), .val (.long x1), .second] [])) := by
    refine own_Goes.step (fun tq kq => XS.aloadN X0.here hx rfl (hb hby d8_0) rfl rfl kq) ?_
    show own_Goes _ _ _ _ _ _ _ (s₁.setTop (mkF m 1 #[.val (.ref x0), .val (.long x1), .second] [(.ref x0)]))
    obtain ⟨T1, X1, e1, st1⟩ := getF X0 hx hZ hown (host := "") (Or.inl (own_at hw 62 rfl)) Via.refl e0 P8 (g := (mkF m 1 #[.val (.ref x0), .val (.long x1), .second] [(.ref x0)])) rfl rfl (hb hby d8_1)
    refine own_Goes.step st1 ?_
    show own_Goes _ _ _ _ _ _ _ (T1.setTop (mkF m 4 #[.val (.ref x0), .val (.long x1), .second] [.null]))
    refine own_Goes.step (fun tq kq => XT.ifnonnullNo X1.here hx rfl (hb hby d8_4) rfl kq) ?_
    show own_Goes _ _ _ _ _ _ _ (T1.setTop (mkF m 7 #[.val (.ref x0), .val (.long x1), .second] []))
    refine own_Goes.step (fun tq kq => XS.aloadN X1.here hx rfl (hb hby d8_7) rfl rfl kq) ?_
    show own_Goes _ _ _ _ _ _ _ (T1.setTop (mkF m 8 #[.val (.ref x0), .val (.long x1), .second] [(.ref x0)]))
    obtain ⟨w3, T3, L3, q3, Y3, st3⟩ := own_priv X1 hx hZ e1 E0 hown (own_at hw 69 rfl) (own_at hw 71 rfl) (own_at hw 20 rfl) (own_at hw 70 rfl) (own_at hw 21 rfl) (own_at hw 72 rfl) (by decide) (own_m9 l Z a0 hw [] x0 kA sA dA pA K Sz D cnt fs mx am la ix n0 h0 B hc3) (by decide) (W := 0) (by decide) (by decide) (by decide) (g := (mkF m 8 #[.val (.ref x0), .val (.long x1), .second] [(.ref x0)])) rfl (by rw [hml]; rfl) (argsL := []) (rest := []) (lenOf pd_9 rfl) rfl (by show 2 * 0 + _ ≤ _; exact Nat.le_of_eq rfl) (hb hby d8_8)
    obtain ⟨rfl, N3, K3, iA, S, ixn, lb, hbl, hiA, B2, I2⟩ := q3
    have Nn3 := Fr.app N0 N3
    have Kn3 := K0.trans K3 (own_kt (Or.inl List.mem_cons_self))
    have IV := own_bld_inv hc3 hbl
    obtain ⟨tt, htt, hm⟩ := IV.find hc3 x1
    have hr := IV.says hm
    have B2c := B2
    have I2c := I2
    obtain ⟨E1, Q0, Q1, Q2, Q3, Q4, Q5, Q6, Q7, Q8, Q9, Q10, U0, -⟩ := B2c
    obtain ⟨UI, -⟩ := I2c
    refine own_Goes.step st3 ?_
    show own_Goes _ _ _ _ _ _ _ (T3.setTop (mkF m 11 #[.val (.ref x0), .val (.long x1), .second] []))
    refine own_Goes.step (fun tq kq => XS.aloadN Y3.here hx rfl (hb hby d8_11) rfl rfl kq) ?_
    show own_Goes _ _ _ _ _ _ _ (T3.setTop (mkF m 12 #[.val (.ref x0), .val (.long x1), .second] [(.ref x0)]))
    obtain ⟨T4, X4, e4, st4⟩ := getF Y3 hx hZ hown (host := "") (Or.inl (own_at hw 62 rfl)) Via.refl rfl Q8 (g := (mkF m 12 #[.val (.ref x0), .val (.long x1), .second] [(.ref x0)])) rfl rfl (hb hby d8_12)
    refine own_Goes.step st4 ?_
    show own_Goes _ _ _ _ _ _ _ (T4.setTop (mkF m 15 #[.val (.ref x0), .val (.long x1), .second] [(.ref iA)]))
    refine own_Goes.step (fun tq kq => XS.aloadN X4.here hx rfl (hb hby d8_15) rfl rfl kq) ?_
    show own_Goes _ _ _ _ _ _ _ (T4.setTop (mkF m 16 #[.val (.ref x0), .val (.long x1), .second] [(.ref x0), (.ref iA)]))
    refine own_Goes.step (fun tq kq => XS.aloadN X4.here hx rfl (hb hby d8_16) rfl rfl kq) ?_
    show own_Goes _ _ _ _ _ _ _ (T4.setTop (mkF m 17 #[.val (.ref x0), .val (.long x1), .second] [(.ref x0), (.ref x0), (.ref iA)]))
    obtain ⟨T5, X5, e5, st5⟩ := getF X4 hx hZ hown (host := "") (Or.inl (own_at hw 62 rfl)) Via.refl e4 Q8 (g := (mkF m 17 #[.val (.ref x0), .val (.long x1), .second] [(.ref x0), (.ref x0), (.ref iA)])) rfl rfl (hb hby d8_17)
    refine own_Goes.step st5 ?_
    show own_Goes _ _ _ _ _ _ _ (T5.setTop (mkF m 20 #[.val (.ref x0), .val (.long x1), .second] [(.ref iA), (.ref x0), (.ref iA)]))
    refine own_Goes.step (fun tq kq => XT.lloadN X5.here hx rfl (hb hby d8_20) rfl kq) ?_
    show own_Goes _ _ _ _ _ _ _ (T5.setTop (mkF m 21 #[.val (.ref x0), .val (.long x1), .second] [(.long x1), (.ref iA), (.ref x0), (.ref iA)]))
    obtain ⟨w6, T6, L6, q6, Y6, st6⟩ := own_priv X5 hx hZ e5 E1 hown (own_at hw 79 rfl) (own_at hw 81 rfl) (own_at hw 20 rfl) (own_at hw 80 rfl) (own_at hw 21 rfl) (own_at hw 82 rfl) (by decide) (own_m11 l Z a0 hw [] x0 iA x1 kA K S tt n0 T3.heap Q0 U0 UI (IV.1.ok (by omega)) hm) (by decide) (W := 1) (by decide) (by decide) (by decide) (g := (mkF m 21 #[.val (.ref x0), .val (.long x1), .second] [(.long x1), (.ref iA), (.ref x0), (.ref iA)])) rfl (by rw [hml]; rfl) (argsL := [(.ref iA), (.long x1)]) (rest := [(.ref iA)]) (lenOf pd_11 rfl) rfl (by show 2 * 0 + _ ≤ _; exact Nat.le_of_eq rfl) (hb hby d8_21)
    obtain ⟨e6, X6⟩ := own_clean q6 Y6 rfl rfl
    obtain ⟨rfl, -, -⟩ := q6
    refine own_Goes.step st6 ?_
    show own_Goes _ _ _ _ _ _ _ (T6.setTop (mkF m 24 #[.val (.ref x0), .val (.long x1), .second] [(.int (Int32.ofNat tt)), (.ref iA)]))
    refine own_Goes.step (own_iald X6 hx hZ e6 UI (i := tt) (own_toI (by omega)) htt (v := (.int (S tt))) rfl (g := (mkF m 24 #[.val (.ref x0), .val (.long x1), .second] [(.int (Int32.ofNat tt)), (.ref iA)])) rfl rfl (hb hby d8_24)) ?_
    show own_Goes _ _ _ _ _ _ _ (T6.setTop (mkF m 25 #[.val (.ref x0), .val (.long x1), .second] [(.int (S tt))]))
    by_cases hc8 : (S tt) = (0 : Int32)
    · refine own_Goes.step (fun tq kq => XS.ifYes X6.here hx rfl (pc0 := 25) (pc' := 32) rfl (hb hby d8_25) rfl (XT.i0_eq_t hc8) (by decide) (by decide) kq) ?_
      show own_Goes _ _ _ _ _ _ _ (T6.setTop (mkF m 32 #[.val (.ref x0), .val (.long x1), .second] []))
      refine own_Goes.step (fun tq kq => XT.iconstV X6.here hx rfl (0 : Int32) (hb hby d8_32) (by decide) kq) ?_
      show own_Goes _ _ _ _ _ _ _ (T6.setTop (mkF m 33 #[.val (.ref x0), .val (.long x1), .second] [(.int (0 : Int32))]))
      refine own_endN X6 hx Bd.notSynchronized (t := .boolean) Bd.returns (by simp) (hb hby d8_33) ?_ (by decide) (by decide)
      show own_F8n Z x0 x1 kA sA dA pA K Sz D cnt fs mx am la ix n0 h0 _ T6.heap _
      rw [e6]
      refine ⟨congrArg (fun z => some (Value.int z)) (own_bi0 hr hc8), Nn3, Kn3, iA, S, ixn, lb, hbl, hiA, B2, I2⟩
    · refine own_Goes.step (fun tq kq => XS.ifNo X6.here hx rfl (hb hby d8_25) rfl (XT.i0_eq_f hc8) kq) ?_
      show own_Goes _ _ _ _ _ _ _ (T6.setTop (mkF m 28 #[.val (.ref x0), .val (.long x1), .second] []))
      refine own_Goes.step (fun tq kq => XT.iconstV X6.here hx rfl (1 : Int32) (hb hby d8_28) (by decide) kq) ?_
      show own_Goes _ _ _ _ _ _ _ (T6.setTop (mkF m 29 #[.val (.ref x0), .val (.long x1), .second] [(.int (1 : Int32))]))
      refine own_Goes.step (fun tq kq => XS.goto X6.here hx rfl (pc0 := 29) (pc' := 33) rfl (hb hby d8_29) (by decide) (by decide) kq) ?_
      show own_Goes _ _ _ _ _ _ _ (T6.setTop (mkF m 33 #[.val (.ref x0), .val (.long x1), .second] [(.int (1 : Int32))]))
      refine own_endN X6 hx Bd.notSynchronized (t := .boolean) Bd.returns (by simp) (hb hby d8_33) ?_ (by decide) (by decide)
      show own_F8n Z x0 x1 kA sA dA pA K Sz D cnt fs mx am la ix n0 h0 _ T6.heap _
      rw [e6]
      refine ⟨congrArg (fun z => some (Value.int z)) (own_bi1 hr hc8), Nn3, Kn3, iA, S, ixn, lb, hbl, hiA, B2, I2⟩
  obtain ⟨t2, o2, q1, q2, q3, q4⟩ := hgo
  exact ⟨t2, o2, castTop (ef_8 m x0 x1) q1, q2, q3, q4⟩
def own_F8s (Z : State) (x0 : Addr) (x1 : Int64) (kA sA dA pA : Addr) (K Sz : Nat → Int64) (D : Nat → Int32) (cnt : Nat) (fs : Int64) (mx am la : Int32) (ix : Int32) (iA : Addr) (S : Nat → Int32) (tt : Nat) (rb : Bool) (n0 : Nat) (h0 : Heap) (v : Option Value) (h : Heap) (L : List Loc) : Prop := v = some (.int (own_bi rb)) ∧ L = [] ∧ h = h0
set_option maxRecDepth 65536 in
set_option maxHeartbeats 40000000 in
theorem own_m8s (l : Launch) (Z : State) (a0 : Array Value) (hw : ∀ d ∈ tables_1, d.before a0 Z = true) (ws : List Jvm.Cond) (x0 : Addr) (x1 : Int64) (kA sA dA pA : Addr) (K Sz : Nat → Int64) (D : Nat → Int32) (cnt : Nat) (fs : Int64) (mx am la : Int32) (ix : Int32) (iA : Addr) (S : Nat → Int32) (tt : Nat) (rb : Bool) (n0 : Nat) (h0 : Heap)  (B : own_W Z h0 n0 x0 kA sA dA pA (.ref iA) K Sz D cnt fs mx am ix la) (I : own_I Z h0 n0 x0 kA sA dA pA iA S) (hS : own_OK S) (hm : own_sl K S x1 16 (own_h x1) = some tt) (htt : tt < 16) (hr : ¬ S tt = (0 : Int32) ↔ rb = true) :
    MetFree l (⟨"com/example/strati/strati/sim/WriteBuffer", "holds", "(J)Z"⟩ : MethodName) (head1 (Jvm.Cond.code (⟨"com/example/strati/strati/sim/WriteBuffer", "holds", "(J)Z"⟩ : MethodName) prog_67_method_4_code 3 (some .boolean) :: ws) ({ frames := 2, cells := 0, slots := 0, locals := 31 } : Room)) (fun a U => a = #[(.ref x0), (.long x1)] ∧ Z.Warmed39 U.vm ∧ U.heap = h0) (fun _ _ _ _ _ => True) (fun _ U o U' => ∃ v L, o = .returned v ∧ own_F8s Z x0 x1 kA sA dA pA K Sz D cnt fs mx am la ix iA S tt rb n0 h0 v U'.heap L ∧ FrameEnd U o U' L ({ frames := 2, cells := 0, slots := 0, locals := 31 } : Room).cells ({ frames := 2, cells := 0, slots := 0, locals := 31 } : Room).slots) := by
  refine MetFree.of_bodySF (plainFor_of_name pn_8) hisR ?_
  intro p e s m args below meth c s₁ Bd hml0 hP hK
  obtain ⟨rfl, hZ, hh⟩ := hP
  have hx := Bd.exec
  have hby := Bd.bytes
  have hml : c.maxLocals = 3 := hml0
  have hown : s.vm.findClass "com/example/strati/strati/sim/WriteBuffer" = some m.cls := findClass_of_methodNamed Bd.named
  have hnm := (name_of_methodNamed Bd.named Bd.method).1
  have X0 : Stand p l e ({ frames := 2, cells := 0, slots := 0, locals := 31 } : Room) s m #[(.ref x0), (.long x1)] below meth c s₁ [] 0 0 := Stand.of_body Bd
  have e0 : s₁.heap = h0 := by rw [← hh, Bd.state]; rfl
  obtain ⟨E0, P0, P1, P2, P3, P4, P5, P6, P7, P8, P9, P10, R0, R1, R2, R3, n1, n2, n3, n4, n5, n6, n7, n8, n9, n10, gw0, gw1, gw2, gw3, hmx, ham⟩ := B
  obtain ⟨RI, m1, m2, m3, m4, m5, gi⟩ := I
  have Z0 : n0 ≤ h0.size := Nat.le_trans gw0 (Nat.le_of_lt E0.lt)
  have N0 := Fr.nil n0
  have K0 : Keep h0 h0 [x0, kA, sA, dA, iA] := Keep.refl h0 [x0, kA, sA, dA, iA]
  have hgo : own_Goes p e below s (own_F8s Z x0 x1 kA sA dA pA K Sz D cnt fs mx am la ix iA S tt rb n0 h0) 0 0 (s₁.setTop (mkF m 0 #[.val (.ref x0), .val (.long x1), .second] [])) := by
    refine own_Goes.step (fun tq kq => XS.aloadN X0.here hx rfl (hb hby d8_0) rfl rfl kq) ?_
    show own_Goes _ _ _ _ _ _ _ (s₁.setTop (mkF m 1 #[.val (.ref x0), .val (.long x1), .second] [(.ref x0)]))
    obtain ⟨T1, X1, e1, st1⟩ := getF X0 hx hZ hown (host := "") (Or.inl (own_at hw 62 rfl)) Via.refl e0 P8 (g := (mkF m 1 #[.val (.ref x0), .val (.long x1), .second] [(.ref x0)])) rfl rfl (hb hby d8_1)
    refine own_Goes.step st1 ?_
    show own_Goes _ _ _ _ _ _ _ (T1.setTop (mkF m 4 #[.val (.ref x0), .val (.long x1), .second] [(.ref iA)]))
    refine own_Goes.step (fun tq kq => XT.ifnonnullYes X1.here hx rfl (pc0 := 4) (pc' := 11) rfl (hb hby d8_4) rfl (by decide) (by decide) kq) ?_
    show own_Goes _ _ _ _ _ _ _ (T1.setTop (mkF m 11 #[.val (.ref x0), .val (.long x1), .second] []))
    refine own_Goes.step (fun tq kq => XS.aloadN X1.here hx rfl (hb hby d8_11) rfl rfl kq) ?_
    show own_Goes _ _ _ _ _ _ _ (T1.setTop (mkF m 12 #[.val (.ref x0), .val (.long x1), .second] [(.ref x0)]))
    obtain ⟨T3, X3, e3, st3⟩ := getF X1 hx hZ hown (host := "") (Or.inl (own_at hw 62 rfl)) Via.refl e1 P8 (g := (mkF m 12 #[.val (.ref x0), .val (.long x1), .second] [(.ref x0)])) rfl rfl (hb hby d8_12)
    refine own_Goes.step st3 ?_
    show own_Goes _ _ _ _ _ _ _ (T3.setTop (mkF m 15 #[.val (.ref x0), .val (.long x1), .second] [(.ref iA)]))
    refine own_Goes.step (fun tq kq => XS.aloadN X3.here hx rfl (hb hby d8_15) rfl rfl kq) ?_
    show own_Goes _ _ _ _ _ _ _ (T3.setTop (mkF m 16 #[.val (.ref x0), .val (.long x1), .second] [(.ref x0), (.ref iA)]))
    refine own_Goes.step (fun tq kq => XS.aloadN X3.here hx rfl (hb hby d8_16) rfl rfl kq) ?_
    show own_Goes _ _ _ _ _ _ _ (T3.setTop (mkF m 17 #[.val (.ref x0), .val (.long x1), .second] [(.ref x0), (.ref x0), (.ref iA)]))
    obtain ⟨T4, X4, e4, st4⟩ := getF X3 hx hZ hown (host := "") (Or.inl (own_at hw 62 rfl)) Via.refl e3 P8 (g := (mkF m 17 #[.val (.ref x0), .val (.long x1), .second] [(.ref x0), (.ref x0), (.ref iA)])) rfl rfl (hb hby d8_17)
    refine own_Goes.step st4 ?_
    show own_Goes _ _ _ _ _ _ _ (T4.setTop (mkF m 20 #[.val (.ref x0), .val (.long x1), .second] [(.ref iA), (.ref x0), (.ref iA)]))
    refine own_Goes.step (fun tq kq => XT.lloadN X4.here hx rfl (hb hby d8_20) rfl kq) ?_
    show own_Goes _ _ _ _ _ _ _ (T4.setTop (mkF m 21 #[.val (.ref x0), .val (.long x1), .second] [(.long x1), (.ref iA), (.ref x0), (.ref iA)]))
    obtain ⟨w5, T5, L5, q5, Y5, st5⟩ := own_priv X4 hx hZ e4 E0 hown (own_at hw 79 rfl) (own_at hw 81 rfl) (own_at hw 20 rfl) (own_at hw 80 rfl) (own_at hw 21 rfl) (own_at hw 82 rfl) (by decide) (own_m11 l Z a0 hw [] x0 iA x1 kA K S tt n0 h0 P0 R0 RI hS hm) (by decide) (W := 1) (by decide) (by decide) (by decide) (g := (mkF m 21 #[.val (.ref x0), .val (.long x1), .second] [(.long x1), (.ref iA), (.ref x0), (.ref iA)])) rfl (by rw [hml]; rfl) (argsL := [(.ref iA), (.long x1)]) (rest := [(.ref iA)]) (lenOf pd_11 rfl) rfl (by show 2 * 0 + _ ≤ _; exact Nat.le_of_eq rfl) (hb hby d8_21)
    obtain ⟨e5, X5⟩ := own_clean q5 Y5 rfl rfl
    obtain ⟨rfl, -, -⟩ := q5
    refine own_Goes.step st5 ?_
    show own_Goes _ _ _ _ _ _ _ (T5.setTop (mkF m 24 #[.val (.ref x0), .val (.long x1), .second] [(.int (Int32.ofNat tt)), (.ref iA)]))
    refine own_Goes.step (own_iald X5 hx hZ e5 RI (i := tt) (own_toI (by omega)) htt (v := (.int (S tt))) rfl (g := (mkF m 24 #[.val (.ref x0), .val (.long x1), .second] [(.int (Int32.ofNat tt)), (.ref iA)])) rfl rfl (hb hby d8_24)) ?_
    show own_Goes _ _ _ _ _ _ _ (T5.setTop (mkF m 25 #[.val (.ref x0), .val (.long x1), .second] [(.int (S tt))]))
    by_cases hc7 : (S tt) = (0 : Int32)
    · refine own_Goes.step (fun tq kq => XS.ifYes X5.here hx rfl (pc0 := 25) (pc' := 32) rfl (hb hby d8_25) rfl (XT.i0_eq_t hc7) (by decide) (by decide) kq) ?_
      show own_Goes _ _ _ _ _ _ _ (T5.setTop (mkF m 32 #[.val (.ref x0), .val (.long x1), .second] []))
      refine own_Goes.step (fun tq kq => XT.iconstV X5.here hx rfl (0 : Int32) (hb hby d8_32) (by decide) kq) ?_
      show own_Goes _ _ _ _ _ _ _ (T5.setTop (mkF m 33 #[.val (.ref x0), .val (.long x1), .second] [(.int (0 : Int32))]))
      refine own_endN X5 hx Bd.notSynchronized (t := .boolean) Bd.returns (by simp) (hb hby d8_33) ?_ (by decide) (by decide)
      show own_F8s Z x0 x1 kA sA dA pA K Sz D cnt fs mx am la ix iA S tt rb n0 h0 _ T5.heap _
      rw [e5]
      exact ⟨congrArg (fun z => some (Value.int z)) (own_bi0 hr hc7), rfl, rfl⟩
    · refine own_Goes.step (fun tq kq => XS.ifNo X5.here hx rfl (hb hby d8_25) rfl (XT.i0_eq_f hc7) kq) ?_
      show own_Goes _ _ _ _ _ _ _ (T5.setTop (mkF m 28 #[.val (.ref x0), .val (.long x1), .second] []))
      refine own_Goes.step (fun tq kq => XT.iconstV X5.here hx rfl (1 : Int32) (hb hby d8_28) (by decide) kq) ?_
      show own_Goes _ _ _ _ _ _ _ (T5.setTop (mkF m 29 #[.val (.ref x0), .val (.long x1), .second] [(.int (1 : Int32))]))
      refine own_Goes.step (fun tq kq => XS.goto X5.here hx rfl (pc0 := 29) (pc' := 33) rfl (hb hby d8_29) (by decide) (by decide) kq) ?_
      show own_Goes _ _ _ _ _ _ _ (T5.setTop (mkF m 33 #[.val (.ref x0), .val (.long x1), .second] [(.int (1 : Int32))]))
      refine own_endN X5 hx Bd.notSynchronized (t := .boolean) Bd.returns (by simp) (hb hby d8_33) ?_ (by decide) (by decide)
      show own_F8s Z x0 x1 kA sA dA pA K Sz D cnt fs mx am la ix iA S tt rb n0 h0 _ T5.heap _
      rw [e5]
      exact ⟨congrArg (fun z => some (Value.int z)) (own_bi1 hr hc7), rfl, rfl⟩
  obtain ⟨t2, o2, q1, q2, q3, q4⟩ := hgo
  exact ⟨t2, o2, castTop (ef_8 m x0 x1) q1, q2, q3, q4⟩
theorem own_d7 {d : Int32} (h : d = 0 ∨ d = 1) : own_f7 d = 0 ∨ own_f7 d = 1 := by rcases h with rfl | rfl <;> decide
theorem own_d7e {d : Int32} (h : d = 0 ∨ d = 1) : own_f7 d = d := by rcases h with rfl | rfl <;> decide
theorem d5_0 : decode prog_67_method_2_code 0 = .ok (.aload_n 0, 1) := by decide +kernel
theorem d5_1 : decode prog_67_method_2_code 1 = .ok (.getfield 28, 3) := by decide +kernel
theorem d5_4 : decode prog_67_method_2_code 4 = .ok (.aload_n 0, 1) := by decide +kernel
theorem d5_5 : decode prog_67_method_2_code 5 = .ok (.getfield 9, 3) := by decide +kernel
theorem d5_8 : decode prog_67_method_2_code 8 = .ok (.arraylength, 1) := by decide +kernel
theorem d5_9 : decode prog_67_method_2_code 9 = .ok (.if_icmp .ne 7, 3) := by decide +kernel
theorem d5_12 : decode prog_67_method_2_code 12 = .ok (.aload_n 0, 1) := by decide +kernel
theorem d5_13 : decode prog_67_method_2_code 13 = .ok (.invokevirtual 31, 3) := by decide +kernel
theorem d5_16 : decode prog_67_method_2_code 16 = .ok (.aload_n 0, 1) := by decide +kernel
theorem d5_17 : decode prog_67_method_2_code 17 = .ok (.getfield 28, 3) := by decide +kernel
theorem d5_20 : decode prog_67_method_2_code 20 = .ok (.ifCond .ne 21, 3) := by decide +kernel
theorem d5_23 : decode prog_67_method_2_code 23 = .ok (.aload_n 0, 1) := by decide +kernel
theorem d5_24 : decode prog_67_method_2_code 24 = .ok (.aload_n 3, 1) := by decide +kernel
theorem d5_25 : decode prog_67_method_2_code 25 = .ok (.invokevirtual 34, 3) := by decide +kernel
theorem d5_28 : decode prog_67_method_2_code 28 = .ok (.putfield 40, 3) := by decide +kernel
theorem d5_31 : decode prog_67_method_2_code 31 = .ok (.aload_n 0, 1) := by decide +kernel
theorem d5_32 : decode prog_67_method_2_code 32 = .ok (.iconst 0, 1) := by decide +kernel
theorem d5_33 : decode prog_67_method_2_code 33 = .ok (.putfield 44, 3) := by decide +kernel
theorem d5_36 : decode prog_67_method_2_code 36 = .ok (.aload_n 0, 1) := by decide +kernel
theorem d5_37 : decode prog_67_method_2_code 37 = .ok (.iconst 0, 1) := by decide +kernel
theorem d5_38 : decode prog_67_method_2_code 38 = .ok (.putfield 48, 3) := by decide +kernel
theorem d5_41 : decode prog_67_method_2_code 41 = .ok (.aload_n 0, 1) := by decide +kernel
theorem d5_42 : decode prog_67_method_2_code 42 = .ok (.dup, 1) := by decide +kernel
theorem d5_43 : decode prog_67_method_2_code 43 = .ok (.getfield 44, 3) := by decide +kernel
theorem d5_46 : decode prog_67_method_2_code 46 = .ok (.aload_n 3, 1) := by decide +kernel
theorem d5_47 : decode prog_67_method_2_code 47 = .ok (.invokevirtual 34, 3) := by decide +kernel
theorem d5_50 : decode prog_67_method_2_code 50 = .ok (.aload_n 0, 1) := by decide +kernel
theorem d5_51 : decode prog_67_method_2_code 51 = .ok (.getfield 40, 3) := by decide +kernel
theorem d5_54 : decode prog_67_method_2_code 54 = .ok (.lcmp, 1) := by decide +kernel
theorem d5_55 : decode prog_67_method_2_code 55 = .ok (.ifCond .eq 7, 3) := by decide +kernel
theorem d5_58 : decode prog_67_method_2_code 58 = .ok (.iconst 1, 1) := by decide +kernel
theorem d5_59 : decode prog_67_method_2_code 59 = .ok (.goto 4, 3) := by decide +kernel
theorem d5_62 : decode prog_67_method_2_code 62 = .ok (.iconst 0, 1) := by decide +kernel
theorem d5_63 : decode prog_67_method_2_code 63 = .ok (.ior, 1) := by decide +kernel
theorem d5_64 : decode prog_67_method_2_code 64 = .ok (.putfield 44, 3) := by decide +kernel
theorem d5_67 : decode prog_67_method_2_code 67 = .ok (.aload_n 0, 1) := by decide +kernel
theorem d5_68 : decode prog_67_method_2_code 68 = .ok (.dup, 1) := by decide +kernel
theorem d5_69 : decode prog_67_method_2_code 69 = .ok (.getfield 48, 3) := by decide +kernel
theorem d5_72 : decode prog_67_method_2_code 72 = .ok (.aload_n 3, 1) := by decide +kernel
theorem d5_73 : decode prog_67_method_2_code 73 = .ok (.invokevirtual 51, 3) := by decide +kernel
theorem d5_76 : decode prog_67_method_2_code 76 = .ok (.ior, 1) := by decide +kernel
theorem d5_77 : decode prog_67_method_2_code 77 = .ok (.putfield 48, 3) := by decide +kernel
theorem d5_80 : decode prog_67_method_2_code 80 = .ok (.aload_n 0, 1) := by decide +kernel
theorem d5_81 : decode prog_67_method_2_code 81 = .ok (.getfield 9, 3) := by decide +kernel
theorem d5_84 : decode prog_67_method_2_code 84 = .ok (.aload_n 0, 1) := by decide +kernel
theorem d5_85 : decode prog_67_method_2_code 85 = .ok (.getfield 28, 3) := by decide +kernel
theorem d5_88 : decode prog_67_method_2_code 88 = .ok (.lload_n 1, 1) := by decide +kernel
theorem d5_89 : decode prog_67_method_2_code 89 = .ok (.lastore, 1) := by decide +kernel
theorem d5_90 : decode prog_67_method_2_code 90 = .ok (.aload_n 0, 1) := by decide +kernel
theorem d5_91 : decode prog_67_method_2_code 91 = .ok (.getfield 13, 3) := by decide +kernel
theorem d5_94 : decode prog_67_method_2_code 94 = .ok (.aload_n 0, 1) := by decide +kernel
theorem d5_95 : decode prog_67_method_2_code 95 = .ok (.getfield 28, 3) := by decide +kernel
theorem d5_98 : decode prog_67_method_2_code 98 = .ok (.aload_n 3, 1) := by decide +kernel
theorem d5_99 : decode prog_67_method_2_code 99 = .ok (.invokevirtual 34, 3) := by decide +kernel
theorem d5_102 : decode prog_67_method_2_code 102 = .ok (.lastore, 1) := by decide +kernel
theorem d5_103 : decode prog_67_method_2_code 103 = .ok (.aload_n 0, 1) := by decide +kernel
theorem d5_104 : decode prog_67_method_2_code 104 = .ok (.getfield 16, 3) := by decide +kernel
theorem d5_107 : decode prog_67_method_2_code 107 = .ok (.aload_n 0, 1) := by decide +kernel
theorem d5_108 : decode prog_67_method_2_code 108 = .ok (.getfield 28, 3) := by decide +kernel
theorem d5_111 : decode prog_67_method_2_code 111 = .ok (.aload_n 3, 1) := by decide +kernel
theorem d5_112 : decode prog_67_method_2_code 112 = .ok (.invokevirtual 51, 3) := by decide +kernel
theorem d5_115 : decode prog_67_method_2_code 115 = .ok (.bastore, 1) := by decide +kernel
theorem d5_116 : decode prog_67_method_2_code 116 = .ok (.aload_n 0, 1) := by decide +kernel
theorem d5_117 : decode prog_67_method_2_code 117 = .ok (.dup, 1) := by decide +kernel
theorem d5_118 : decode prog_67_method_2_code 118 = .ok (.getfield 28, 3) := by decide +kernel
theorem d5_121 : decode prog_67_method_2_code 121 = .ok (.iconst 1, 1) := by decide +kernel
theorem d5_122 : decode prog_67_method_2_code 122 = .ok (.iadd, 1) := by decide +kernel
theorem d5_123 : decode prog_67_method_2_code 123 = .ok (.putfield 28, 3) := by decide +kernel
theorem d5_126 : decode prog_67_method_2_code 126 = .ok (.aload_n 0, 1) := by decide +kernel
theorem d5_127 : decode prog_67_method_2_code 127 = .ok (.getfield 55, 3) := by decide +kernel
theorem d5_130 : decode prog_67_method_2_code 130 = .ok (.ifnull 13, 3) := by decide +kernel
theorem d5_133 : decode prog_67_method_2_code 133 = .ok (.aload_n 0, 1) := by decide +kernel
theorem d5_134 : decode prog_67_method_2_code 134 = .ok (.aload_n 0, 1) := by decide +kernel
theorem d5_135 : decode prog_67_method_2_code 135 = .ok (.getfield 28, 3) := by decide +kernel
theorem d5_138 : decode prog_67_method_2_code 138 = .ok (.iconst 1, 1) := by decide +kernel
theorem d5_139 : decode prog_67_method_2_code 139 = .ok (.isub, 1) := by decide +kernel
theorem d5_140 : decode prog_67_method_2_code 140 = .ok (.invokevirtual 58, 3) := by decide +kernel
theorem d5_143 : decode prog_67_method_2_code 143 = .ok (.return_, 1) := by decide +kernel
theorem pn_5 : plainName "com/example/strati/strati/sim/WriteBuffer" = true := by first | (simp [plainName, overriddenIn]; done) | decide +kernel
theorem pd_5 : parseMethodDescriptor "(JLcom/example/strati/strati/sim/Entry;)V" = some ⟨[.long, (.object "com/example/strati/strati/sim/Entry")], none⟩ := by decide +kernel
theorem ef_5 (m : MethodId) (x0 : Addr) (x1 : Int64) (x2 : Addr) : entryFrame m #[(.ref x0), (.long x1), (.ref x2)] 4 = mkF m 0 #[.val (.ref x0), .val (.long x1), .second, .val (.ref x2)] [] := by first | (simp [entryFrame, mkF, argsToLocals, Value.category]; done) | rfl
def own_f5n_1 (z fs : Int64) : Int32 := (if (own_f6 z) = fs then (0 : Int32) else (1 : Int32))
def own_F5n (Z : State) (x0 : Addr) (x1 : Int64) (x2 : Addr) (kA sA dA pA : Addr) (K Sz : Nat → Int64) (D : Nat → Int32) (cnt : Nat) (fs : Int64) (mx am la : Int32) (ix : Int32) (z : Int64) (d : Int32) (n0 : Nat) (h0 : Heap) (v : Option Value) (h : Heap) (L : List Loc) : Prop := v = none ∧ Fr n0 L ∧ Keep h0 h [x0, kA, sA, dA] ∧ ∃ (fs1 : Int64) (mx1 am1 : Int32), (cnt = 0 → fs1 = z ∧ mx1 = 0 ∧ am1 = d) ∧ own_W Z h n0 x0 kA sA dA pA .null (own_setJ K cnt x1) (own_setJ Sz cnt z) (own_set D cnt (nar .boolean (own_f7 d))) (cnt + 1) fs1 mx1 am1 ix la
set_option maxRecDepth 65536 in
set_option maxHeartbeats 40000000 in
theorem own_m5n (l : Launch) (Z : State) (a0 : Array Value) (hw : ∀ d ∈ tables_1, d.before a0 Z = true) (ws : List Jvm.Cond) (x0 : Addr) (x1 : Int64) (x2 : Addr) (kA sA dA pA : Addr) (K Sz : Nat → Int64) (D : Nat → Int32) (cnt : Nat) (fs : Int64) (mx am la : Int32) (ix : Int32) (z : Int64) (d : Int32) (n0 : Nat) (h0 : Heap)  (B : own_W Z h0 n0 x0 kA sA dA pA .null K Sz D cnt fs mx am ix la) (EE : Exa Z h0 x2 "com/example/strati/strati/sim/Entry") (PE0 : Fld Z h0 x2 "com/example/strati/strati/sim/Entry" "size" "J" (.long z)) (PE1 : Fld Z h0 x2 "com/example/strati/strati/sim/Entry" "delete" "Z" (.int d)) (hd : d = 0 ∨ d = 1) (x1n : x2 ≠ x0) (x2n : x2 ≠ kA) (x3n : x2 ≠ sA) (x4n : x2 ≠ dA) (x6n : x2 ≠ pA) (hc16 : cnt < 16) :
    MetFree l (⟨"com/example/strati/strati/sim/WriteBuffer", "put", "(JLcom/example/strati/strati/sim/Entry;)V"⟩ : MethodName) (head1 (Jvm.Cond.code (⟨"com/example/strati/strati/sim/WriteBuffer", "put", "(JLcom/example/strati/strati/sim/Entry;)V"⟩ : MethodName) prog_67_method_2_code 4 none :: ws) ({ frames := 1, cells := 0, slots := 0, locals := 14 } : Room)) (fun a U => a = #[(.ref x0), (.long x1), (.ref x2)] ∧ Z.Warmed39 U.vm ∧ U.heap = h0) (fun _ _ _ _ _ => True) (fun _ U o U' => ∃ v L, o = .returned v ∧ own_F5n Z x0 x1 x2 kA sA dA pA K Sz D cnt fs mx am la ix z d n0 h0 v U'.heap L ∧ FrameEnd U o U' L ({ frames := 1, cells := 0, slots := 0, locals := 14 } : Room).cells ({ frames := 1, cells := 0, slots := 0, locals := 14 } : Room).slots) := by
  refine MetFree.of_bodySF (plainFor_of_name pn_5) hisR ?_
  intro p e s m args below meth c s₁ Bd hml0 hP hK
  obtain ⟨rfl, hZ, hh⟩ := hP
  have hx := Bd.exec
  have hby := Bd.bytes
  have hml : c.maxLocals = 4 := hml0
  have hown : s.vm.findClass "com/example/strati/strati/sim/WriteBuffer" = some m.cls := findClass_of_methodNamed Bd.named
  have hnm := (name_of_methodNamed Bd.named Bd.method).1
  have X0 : Stand p l e ({ frames := 1, cells := 0, slots := 0, locals := 14 } : Room) s m #[(.ref x0), (.long x1), (.ref x2)] below meth c s₁ [] 0 0 := Stand.of_body Bd
  have e0 : s₁.heap = h0 := by rw [← hh, Bd.state]; rfl
  obtain ⟨E0, P0, P1, P2, P3, P4, P5, P6, P7, P8, P9, P10, R0, R1, R2, R3, n1, n2, n3, n4, n5, n6, n7, n8, n9, n10, gw0, gw1, gw2, gw3, hmx, ham⟩ := B
  have Z0 : n0 ≤ h0.size := Nat.le_trans gw0 (Nat.le_of_lt E0.lt)
  have N0 := Fr.nil n0
  have K0 : Keep h0 h0 [x0, kA, sA, dA] := Keep.refl h0 [x0, kA, sA, dA]
  have hgo : own_Goes p e below s (own_F5n Z x0 x1 x2 kA sA dA pA K Sz D cnt fs mx am la ix z d n0 h0) 0 0 (s₁.setTop (mkF m 0 #[.val (.ref x0), .val (.long x1), .second, .val (.ref x2)] [])) := by
    refine own_Goes.step (fun tq kq => XS.aloadN X0.here hx rfl (hb hby d5_0) rfl rfl kq) ?_
    show own_Goes _ _ _ _ _ _ _ (s₁.setTop (mkF m 1 #[.val (.ref x0), .val (.long x1), .second, .val (.ref x2)] [(.ref x0)]))
    obtain ⟨T1, X1, e1, st1⟩ := getF X0 hx hZ hown (host := "") (Or.inl (own_at hw 44 rfl)) Via.refl e0 P4 (g := (mkF m 1 #[.val (.ref x0), .val (.long x1), .second, .val (.ref x2)] [(.ref x0)])) rfl rfl (hb hby d5_1)
    refine own_Goes.step st1 ?_
    show own_Goes _ _ _ _ _ _ _ (T1.setTop (mkF m 4 #[.val (.ref x0), .val (.long x1), .second, .val (.ref x2)] [(.int (Int32.ofNat cnt))]))
    refine own_Goes.step (fun tq kq => XS.aloadN X1.here hx rfl (hb hby d5_4) rfl rfl kq) ?_
    show own_Goes _ _ _ _ _ _ _ (T1.setTop (mkF m 5 #[.val (.ref x0), .val (.long x1), .second, .val (.ref x2)] [(.ref x0), (.int (Int32.ofNat cnt))]))
    obtain ⟨T2, X2, e2, st2⟩ := getF X1 hx hZ hown (host := "") (Or.inl (own_at hw 27 rfl)) Via.refl e1 P0 (g := (mkF m 5 #[.val (.ref x0), .val (.long x1), .second, .val (.ref x2)] [(.ref x0), (.int (Int32.ofNat cnt))])) rfl rfl (hb hby d5_5)
    refine own_Goes.step st2 ?_
    show own_Goes _ _ _ _ _ _ _ (T2.setTop (mkF m 8 #[.val (.ref x0), .val (.long x1), .second, .val (.ref x2)] [(.ref kA), (.int (Int32.ofNat cnt))]))
    refine own_Goes.step (own_alen X2 hx hZ e2 R0 (z := (16 : Int32)) (by decide) (g := (mkF m 8 #[.val (.ref x0), .val (.long x1), .second, .val (.ref x2)] [(.ref kA), (.int (Int32.ofNat cnt))])) rfl rfl (hb hby d5_8)) ?_
    show own_Goes _ _ _ _ _ _ _ (T2.setTop (mkF m 9 #[.val (.ref x0), .val (.long x1), .second, .val (.ref x2)] [(.int (16 : Int32)), (.int (Int32.ofNat cnt))]))
    refine own_Goes.step (fun tq kq => XS.icmpYes X2.here hx rfl (pc0 := 9) (pc' := 16) rfl (hb hby d5_9) rfl (XT.ii_ne_t (own_c16 hc16)) (by decide) (by decide) kq) ?_
    show own_Goes _ _ _ _ _ _ _ (T2.setTop (mkF m 16 #[.val (.ref x0), .val (.long x1), .second, .val (.ref x2)] []))
    refine own_Goes.step (fun tq kq => XS.aloadN X2.here hx rfl (hb hby d5_16) rfl rfl kq) ?_
    show own_Goes _ _ _ _ _ _ _ (T2.setTop (mkF m 17 #[.val (.ref x0), .val (.long x1), .second, .val (.ref x2)] [(.ref x0)]))
    obtain ⟨T4, X4, e4, st4⟩ := getF X2 hx hZ hown (host := "") (Or.inl (own_at hw 44 rfl)) Via.refl e2 P4 (g := (mkF m 17 #[.val (.ref x0), .val (.long x1), .second, .val (.ref x2)] [(.ref x0)])) rfl rfl (hb hby d5_17)
    refine own_Goes.step st4 ?_
    show own_Goes _ _ _ _ _ _ _ (T4.setTop (mkF m 20 #[.val (.ref x0), .val (.long x1), .second, .val (.ref x2)] [(.int (Int32.ofNat cnt))]))
    by_cases hc5 : (Int32.ofNat cnt) = (0 : Int32)
    · refine own_Goes.step (fun tq kq => XS.ifNo X4.here hx rfl (hb hby d5_20) rfl (XT.i0_ne_f hc5) kq) ?_
      show own_Goes _ _ _ _ _ _ _ (T4.setTop (mkF m 23 #[.val (.ref x0), .val (.long x1), .second, .val (.ref x2)] []))
      refine own_Goes.step (fun tq kq => XS.aloadN X4.here hx rfl (hb hby d5_23) rfl rfl kq) ?_
      show own_Goes _ _ _ _ _ _ _ (T4.setTop (mkF m 24 #[.val (.ref x0), .val (.long x1), .second, .val (.ref x2)] [(.ref x0)]))
      refine own_Goes.step (fun tq kq => XS.aloadN X4.here hx rfl (hb hby d5_24) rfl rfl kq) ?_
      show own_Goes _ _ _ _ _ _ _ (T4.setTop (mkF m 25 #[.val (.ref x0), .val (.long x1), .second, .val (.ref x2)] [(.ref x2), (.ref x0)]))
      obtain ⟨w6, T6, L6, q6, Y6, st6⟩ := own_virt X4 hx hZ e4 EE hown (own_at hw 46 rfl) (own_at hw 47 rfl) (own_at hw 49 rfl) (own_at hw 48 rfl) (own_at hw 2 rfl) (own_at hw 50 rfl) (by decide) (own_m6 l Z a0 hw [] x2 z h0 PE0 ) (by decide) (W := 1) (by decide) (by decide) (by decide) (g := (mkF m 25 #[.val (.ref x0), .val (.long x1), .second, .val (.ref x2)] [(.ref x2), (.ref x0)])) rfl (by rw [hml]; rfl) (argsL := []) (rest := [(.ref x0)]) (lenOf pd_6 rfl) rfl (by show 2 * 0 + _ ≤ _; exact Nat.le_of_eq rfl) (hb hby d5_25)
      obtain ⟨e6, X6⟩ := own_clean q6 Y6 rfl rfl
      obtain ⟨rfl, -, -⟩ := q6
      refine own_Goes.step st6 ?_
      show own_Goes _ _ _ _ _ _ _ (T6.setTop (mkF m 28 #[.val (.ref x0), .val (.long x1), .second, .val (.ref x2)] [(.long (own_f6 z)), (.ref x0)]))
      obtain ⟨T7, h7, X7, e7, W7, st7⟩ := putF X6 hx hZ hown (host := "") (Or.inl (own_at hw 51 rfl)) Via.refl e6 (v := (.long (own_f6 z))) P5 E0 (Or.inl (own_at hw 52 rfl)) (own_at hw 20 rfl) (ty := .long) (by decide) rfl rfl (g := (mkF m 28 #[.val (.ref x0), .val (.long x1), .second, .val (.ref x2)] [(.long (own_f6 z)), (.ref x0)])) rfl rfl (hb hby d5_28)
      refine own_Goes.step st7 ?_
      have f8 := E0.wr W7
      have f9 := P0.other W7 (Or.inr (slot_ne (Or.inl (own_at hw 28 rfl)) (Or.inl (own_at hw 52 rfl)) (by decide) (t := (.array .long)) (t' := .long) (by decide) (by decide)))
      have f10 := P1.other W7 (Or.inr (slot_ne (Or.inl (own_at hw 30 rfl)) (Or.inl (own_at hw 52 rfl)) (by decide) (t := (.array .long)) (t' := .long) (by decide) (by decide)))
      have f11 := P2.other W7 (Or.inr (slot_ne (Or.inl (own_at hw 33 rfl)) (Or.inl (own_at hw 52 rfl)) (by decide) (t := (.array .boolean)) (t' := .long) (by decide) (by decide)))
      have f12 := P3.other W7 (Or.inr (slot_ne (Or.inl (own_at hw 36 rfl)) (Or.inl (own_at hw 52 rfl)) (by decide) (t := (.array .int)) (t' := .long) (by decide) (by decide)))
      have f13 := P4.other W7 (Or.inr (slot_ne (Or.inl (own_at hw 45 rfl)) (Or.inl (own_at hw 52 rfl)) (by decide) (t := .int) (t' := .long) (by decide) (by decide)))
      have f14 := P5.same W7
      have f15 := P6.other W7 (Or.inr (slot_ne (Or.inl (own_at hw 54 rfl)) (Or.inl (own_at hw 52 rfl)) (by decide) (t := .boolean) (t' := .long) (by decide) (by decide)))
      have f16 := P7.other W7 (Or.inr (slot_ne (Or.inl (own_at hw 56 rfl)) (Or.inl (own_at hw 52 rfl)) (by decide) (t := .boolean) (t' := .long) (by decide) (by decide)))
      have f17 := P8.other W7 (Or.inr (slot_ne (Or.inl (own_at hw 63 rfl)) (Or.inl (own_at hw 52 rfl)) (by decide) (t := (.array .int)) (t' := .long) (by decide) (by decide)))
      have f18 := P9.other W7 (Or.inr (slot_ne (Or.inl (own_at hw 74 rfl)) (Or.inl (own_at hw 52 rfl)) (by decide) (t := .int) (t' := .long) (by decide) (by decide)))
      have f19 := P10.other W7 (Or.inr (slot_ne (Or.inl (own_at hw 38 rfl)) (Or.inl (own_at hw 52 rfl)) (by decide) (t := .int) (t' := .long) (by decide) (by decide)))
      have f20 := R0.other W7 (Ne.symm n1)
      have f21 := R1.other W7 (Ne.symm n2)
      have f22 := R2.other W7 (Ne.symm n3)
      have f23 := R3.other W7 (Ne.symm n4)
      have f24 := EE.wr W7
      have f25 := PE0.other W7 (Or.inl x1n)
      have f26 := PE1.other W7 (Or.inl x1n)
      have K27 := K0.wr W7 (Or.inl (List.mem_of_getElem? (i := 0) rfl))
      have N28 := Fr.snoc X7 N0 gw0
      have Z29 : n0 ≤ h7.size := Nat.le_trans Z0 (Keep.of_wr W7).1
      show own_Goes _ _ _ _ _ _ _ (T7.setTop (mkF m 31 #[.val (.ref x0), .val (.long x1), .second, .val (.ref x2)] []))
      refine own_Goes.step (fun tq kq => XS.aloadN X7.here hx rfl (hb hby d5_31) rfl rfl kq) ?_
      show own_Goes _ _ _ _ _ _ _ (T7.setTop (mkF m 32 #[.val (.ref x0), .val (.long x1), .second, .val (.ref x2)] [(.ref x0)]))
      refine own_Goes.step (fun tq kq => XT.iconstV X7.here hx rfl (0 : Int32) (hb hby d5_32) (by decide) kq) ?_
      show own_Goes _ _ _ _ _ _ _ (T7.setTop (mkF m 33 #[.val (.ref x0), .val (.long x1), .second, .val (.ref x2)] [(.int (0 : Int32)), (.ref x0)]))
      obtain ⟨T30, h30, X30, e30, W30, st30⟩ := putF X7 hx hZ hown (host := "") (Or.inl (own_at hw 53 rfl)) Via.refl e7 (v := (.int (0 : Int32))) f15 f8 (Or.inl (own_at hw 54 rfl)) (own_at hw 20 rfl) (ty := .boolean) (by decide) rfl rfl (g := (mkF m 33 #[.val (.ref x0), .val (.long x1), .second, .val (.ref x2)] [(.int (0 : Int32)), (.ref x0)])) rfl rfl (hb hby d5_33)
      refine own_Goes.step st30 ?_
      have f31 := f8.wr W30
      have f32 := f9.other W30 (Or.inr (slot_ne (Or.inl (own_at hw 28 rfl)) (Or.inl (own_at hw 54 rfl)) (by decide) (t := (.array .long)) (t' := .boolean) (by decide) (by decide)))
      have f33 := f10.other W30 (Or.inr (slot_ne (Or.inl (own_at hw 30 rfl)) (Or.inl (own_at hw 54 rfl)) (by decide) (t := (.array .long)) (t' := .boolean) (by decide) (by decide)))
      have f34 := f11.other W30 (Or.inr (slot_ne (Or.inl (own_at hw 33 rfl)) (Or.inl (own_at hw 54 rfl)) (by decide) (t := (.array .boolean)) (t' := .boolean) (by decide) (by decide)))
      have f35 := f12.other W30 (Or.inr (slot_ne (Or.inl (own_at hw 36 rfl)) (Or.inl (own_at hw 54 rfl)) (by decide) (t := (.array .int)) (t' := .boolean) (by decide) (by decide)))
      have f36 := f13.other W30 (Or.inr (slot_ne (Or.inl (own_at hw 45 rfl)) (Or.inl (own_at hw 54 rfl)) (by decide) (t := .int) (t' := .boolean) (by decide) (by decide)))
      have f37 := f14.other W30 (Or.inr (slot_ne (Or.inl (own_at hw 52 rfl)) (Or.inl (own_at hw 54 rfl)) (by decide) (t := .long) (t' := .boolean) (by decide) (by decide)))
      have f38 := f15.same W30
      have f39 := f16.other W30 (Or.inr (slot_ne (Or.inl (own_at hw 56 rfl)) (Or.inl (own_at hw 54 rfl)) (by decide) (t := .boolean) (t' := .boolean) (by decide) (by decide)))
      have f40 := f17.other W30 (Or.inr (slot_ne (Or.inl (own_at hw 63 rfl)) (Or.inl (own_at hw 54 rfl)) (by decide) (t := (.array .int)) (t' := .boolean) (by decide) (by decide)))
      have f41 := f18.other W30 (Or.inr (slot_ne (Or.inl (own_at hw 74 rfl)) (Or.inl (own_at hw 54 rfl)) (by decide) (t := .int) (t' := .boolean) (by decide) (by decide)))
      have f42 := f19.other W30 (Or.inr (slot_ne (Or.inl (own_at hw 38 rfl)) (Or.inl (own_at hw 54 rfl)) (by decide) (t := .int) (t' := .boolean) (by decide) (by decide)))
      have f43 := f20.other W30 (Ne.symm n1)
      have f44 := f21.other W30 (Ne.symm n2)
      have f45 := f22.other W30 (Ne.symm n3)
      have f46 := f23.other W30 (Ne.symm n4)
      have f47 := f24.wr W30
      have f48 := f25.other W30 (Or.inl x1n)
      have f49 := f26.other W30 (Or.inl x1n)
      have K50 := K27.wr W30 (Or.inl (List.mem_of_getElem? (i := 0) rfl))
      have N51 := Fr.snoc X30 N28 gw0
      have Z52 : n0 ≤ h30.size := Nat.le_trans Z29 (Keep.of_wr W30).1
      show own_Goes _ _ _ _ _ _ _ (T30.setTop (mkF m 36 #[.val (.ref x0), .val (.long x1), .second, .val (.ref x2)] []))
      refine own_Goes.step (fun tq kq => XS.aloadN X30.here hx rfl (hb hby d5_36) rfl rfl kq) ?_
      show own_Goes _ _ _ _ _ _ _ (T30.setTop (mkF m 37 #[.val (.ref x0), .val (.long x1), .second, .val (.ref x2)] [(.ref x0)]))
      refine own_Goes.step (fun tq kq => XT.iconstV X30.here hx rfl (0 : Int32) (hb hby d5_37) (by decide) kq) ?_
      show own_Goes _ _ _ _ _ _ _ (T30.setTop (mkF m 38 #[.val (.ref x0), .val (.long x1), .second, .val (.ref x2)] [(.int (0 : Int32)), (.ref x0)]))
      obtain ⟨T53, h53, X53, e53, W53, st53⟩ := putF X30 hx hZ hown (host := "") (Or.inl (own_at hw 55 rfl)) Via.refl e30 (v := (.int (0 : Int32))) f39 f31 (Or.inl (own_at hw 56 rfl)) (own_at hw 20 rfl) (ty := .boolean) (by decide) rfl rfl (g := (mkF m 38 #[.val (.ref x0), .val (.long x1), .second, .val (.ref x2)] [(.int (0 : Int32)), (.ref x0)])) rfl rfl (hb hby d5_38)
      refine own_Goes.step st53 ?_
      have f54 := f31.wr W53
      have f55 := f32.other W53 (Or.inr (slot_ne (Or.inl (own_at hw 28 rfl)) (Or.inl (own_at hw 56 rfl)) (by decide) (t := (.array .long)) (t' := .boolean) (by decide) (by decide)))
      have f56 := f33.other W53 (Or.inr (slot_ne (Or.inl (own_at hw 30 rfl)) (Or.inl (own_at hw 56 rfl)) (by decide) (t := (.array .long)) (t' := .boolean) (by decide) (by decide)))
      have f57 := f34.other W53 (Or.inr (slot_ne (Or.inl (own_at hw 33 rfl)) (Or.inl (own_at hw 56 rfl)) (by decide) (t := (.array .boolean)) (t' := .boolean) (by decide) (by decide)))
      have f58 := f35.other W53 (Or.inr (slot_ne (Or.inl (own_at hw 36 rfl)) (Or.inl (own_at hw 56 rfl)) (by decide) (t := (.array .int)) (t' := .boolean) (by decide) (by decide)))
      have f59 := f36.other W53 (Or.inr (slot_ne (Or.inl (own_at hw 45 rfl)) (Or.inl (own_at hw 56 rfl)) (by decide) (t := .int) (t' := .boolean) (by decide) (by decide)))
      have f60 := f37.other W53 (Or.inr (slot_ne (Or.inl (own_at hw 52 rfl)) (Or.inl (own_at hw 56 rfl)) (by decide) (t := .long) (t' := .boolean) (by decide) (by decide)))
      have f61 := f38.other W53 (Or.inr (slot_ne (Or.inl (own_at hw 54 rfl)) (Or.inl (own_at hw 56 rfl)) (by decide) (t := .boolean) (t' := .boolean) (by decide) (by decide)))
      have f62 := f39.same W53
      have f63 := f40.other W53 (Or.inr (slot_ne (Or.inl (own_at hw 63 rfl)) (Or.inl (own_at hw 56 rfl)) (by decide) (t := (.array .int)) (t' := .boolean) (by decide) (by decide)))
      have f64 := f41.other W53 (Or.inr (slot_ne (Or.inl (own_at hw 74 rfl)) (Or.inl (own_at hw 56 rfl)) (by decide) (t := .int) (t' := .boolean) (by decide) (by decide)))
      have f65 := f42.other W53 (Or.inr (slot_ne (Or.inl (own_at hw 38 rfl)) (Or.inl (own_at hw 56 rfl)) (by decide) (t := .int) (t' := .boolean) (by decide) (by decide)))
      have f66 := f43.other W53 (Ne.symm n1)
      have f67 := f44.other W53 (Ne.symm n2)
      have f68 := f45.other W53 (Ne.symm n3)
      have f69 := f46.other W53 (Ne.symm n4)
      have f70 := f47.wr W53
      have f71 := f48.other W53 (Or.inl x1n)
      have f72 := f49.other W53 (Or.inl x1n)
      have K73 := K50.wr W53 (Or.inl (List.mem_of_getElem? (i := 0) rfl))
      have N74 := Fr.snoc X53 N51 gw0
      have Z75 : n0 ≤ h53.size := Nat.le_trans Z52 (Keep.of_wr W53).1
      show own_Goes _ _ _ _ _ _ _ (T53.setTop (mkF m 41 #[.val (.ref x0), .val (.long x1), .second, .val (.ref x2)] []))
      refine own_Goes.step (fun tq kq => XS.aloadN X53.here hx rfl (hb hby d5_41) rfl rfl kq) ?_
      show own_Goes _ _ _ _ _ _ _ (T53.setTop (mkF m 42 #[.val (.ref x0), .val (.long x1), .second, .val (.ref x2)] [(.ref x0)]))
      refine own_Goes.step (fun tq kq => XS.dup X53.here hx rfl (hb hby d5_42) rfl rfl kq) ?_
      show own_Goes _ _ _ _ _ _ _ (T53.setTop (mkF m 43 #[.val (.ref x0), .val (.long x1), .second, .val (.ref x2)] [(.ref x0), (.ref x0)]))
      obtain ⟨T76, X76, e76, st76⟩ := getF X53 hx hZ hown (host := "") (Or.inl (own_at hw 53 rfl)) Via.refl e53 f61 (g := (mkF m 43 #[.val (.ref x0), .val (.long x1), .second, .val (.ref x2)] [(.ref x0), (.ref x0)])) rfl rfl (hb hby d5_43)
      refine own_Goes.step st76 ?_
      show own_Goes _ _ _ _ _ _ _ (T76.setTop (mkF m 46 #[.val (.ref x0), .val (.long x1), .second, .val (.ref x2)] [(.int (0 : Int32)), (.ref x0)]))
      refine own_Goes.step (fun tq kq => XS.aloadN X76.here hx rfl (hb hby d5_46) rfl rfl kq) ?_
      show own_Goes _ _ _ _ _ _ _ (T76.setTop (mkF m 47 #[.val (.ref x0), .val (.long x1), .second, .val (.ref x2)] [(.ref x2), (.int (0 : Int32)), (.ref x0)]))
      obtain ⟨w77, T77, L77, q77, Y77, st77⟩ := own_virt X76 hx hZ e76 f70 hown (own_at hw 46 rfl) (own_at hw 47 rfl) (own_at hw 49 rfl) (own_at hw 48 rfl) (own_at hw 2 rfl) (own_at hw 50 rfl) (by decide) (own_m6 l Z a0 hw [] x2 z h53 f71 ) (by decide) (W := 2) (by decide) (by decide) (by decide) (g := (mkF m 47 #[.val (.ref x0), .val (.long x1), .second, .val (.ref x2)] [(.ref x2), (.int (0 : Int32)), (.ref x0)])) rfl (by rw [hml]; rfl) (argsL := []) (rest := [(.int (0 : Int32)), (.ref x0)]) (lenOf pd_6 rfl) rfl (by show 2 * 0 + _ ≤ _; exact Nat.le_of_eq rfl) (hb hby d5_47)
      obtain ⟨e77, X77⟩ := own_clean q77 Y77 rfl rfl
      obtain ⟨rfl, -, -⟩ := q77
      refine own_Goes.step st77 ?_
      show own_Goes _ _ _ _ _ _ _ (T77.setTop (mkF m 50 #[.val (.ref x0), .val (.long x1), .second, .val (.ref x2)] [(.long (own_f6 z)), (.int (0 : Int32)), (.ref x0)]))
      refine own_Goes.step (fun tq kq => XS.aloadN X77.here hx rfl (hb hby d5_50) rfl rfl kq) ?_
      show own_Goes _ _ _ _ _ _ _ (T77.setTop (mkF m 51 #[.val (.ref x0), .val (.long x1), .second, .val (.ref x2)] [(.ref x0), (.long (own_f6 z)), (.int (0 : Int32)), (.ref x0)]))
      obtain ⟨T78, X78, e78, st78⟩ := getF X77 hx hZ hown (host := "") (Or.inl (own_at hw 51 rfl)) Via.refl e77 f60 (g := (mkF m 51 #[.val (.ref x0), .val (.long x1), .second, .val (.ref x2)] [(.ref x0), (.long (own_f6 z)), (.int (0 : Int32)), (.ref x0)])) rfl rfl (hb hby d5_51)
      refine own_Goes.step st78 ?_
      show own_Goes _ _ _ _ _ _ _ (T78.setTop (mkF m 54 #[.val (.ref x0), .val (.long x1), .second, .val (.ref x2)] [(.long (own_f6 z)), (.long (own_f6 z)), (.int (0 : Int32)), (.ref x0)]))
      refine own_Goes.step (fun tq kq => XT.lcmp X78.here hx rfl (hb hby d5_54) rfl kq) ?_
      show own_Goes _ _ _ _ _ _ _ (T78.setTop (mkF m 55 #[.val (.ref x0), .val (.long x1), .second, .val (.ref x2)] [(.int (XT.cmpL (own_f6 z) (own_f6 z))), (.int (0 : Int32)), (.ref x0)]))
      refine own_Goes.step (fun tq kq => XS.ifYes X78.here hx rfl (pc0 := 55) (pc' := 62) rfl (hb hby d5_55) rfl (XT.ll_eq_t (rfl)) (by decide) (by decide) kq) ?_
      show own_Goes _ _ _ _ _ _ _ (T78.setTop (mkF m 62 #[.val (.ref x0), .val (.long x1), .second, .val (.ref x2)] [(.int (0 : Int32)), (.ref x0)]))
      refine own_Goes.step (fun tq kq => XT.iconstV X78.here hx rfl (0 : Int32) (hb hby d5_62) (by decide) kq) ?_
      show own_Goes _ _ _ _ _ _ _ (T78.setTop (mkF m 63 #[.val (.ref x0), .val (.long x1), .second, .val (.ref x2)] [(.int (0 : Int32)), (.int (0 : Int32)), (.ref x0)]))
      refine own_Goes.step (fun tq kq => XT.ior X78.here hx rfl (hb hby d5_63) rfl kq) ?_
      show own_Goes _ _ _ _ _ _ _ (T78.setTop (mkF m 64 #[.val (.ref x0), .val (.long x1), .second, .val (.ref x2)] [(.int ((0 : Int32) ||| (0 : Int32))), (.ref x0)]))
      obtain ⟨T79, h79, X79, e79, W79, st79⟩ := putF X78 hx hZ hown (host := "") (Or.inl (own_at hw 53 rfl)) Via.refl e78 (v := (.int ((0 : Int32) ||| (0 : Int32)))) f61 f54 (Or.inl (own_at hw 54 rfl)) (own_at hw 20 rfl) (ty := .boolean) (by decide) rfl rfl (g := (mkF m 64 #[.val (.ref x0), .val (.long x1), .second, .val (.ref x2)] [(.int ((0 : Int32) ||| (0 : Int32))), (.ref x0)])) rfl rfl (hb hby d5_64)
      refine own_Goes.step st79 ?_
      have f80 := f54.wr W79
      have f81 := f55.other W79 (Or.inr (slot_ne (Or.inl (own_at hw 28 rfl)) (Or.inl (own_at hw 54 rfl)) (by decide) (t := (.array .long)) (t' := .boolean) (by decide) (by decide)))
      have f82 := f56.other W79 (Or.inr (slot_ne (Or.inl (own_at hw 30 rfl)) (Or.inl (own_at hw 54 rfl)) (by decide) (t := (.array .long)) (t' := .boolean) (by decide) (by decide)))
      have f83 := f57.other W79 (Or.inr (slot_ne (Or.inl (own_at hw 33 rfl)) (Or.inl (own_at hw 54 rfl)) (by decide) (t := (.array .boolean)) (t' := .boolean) (by decide) (by decide)))
      have f84 := f58.other W79 (Or.inr (slot_ne (Or.inl (own_at hw 36 rfl)) (Or.inl (own_at hw 54 rfl)) (by decide) (t := (.array .int)) (t' := .boolean) (by decide) (by decide)))
      have f85 := f59.other W79 (Or.inr (slot_ne (Or.inl (own_at hw 45 rfl)) (Or.inl (own_at hw 54 rfl)) (by decide) (t := .int) (t' := .boolean) (by decide) (by decide)))
      have f86 := f60.other W79 (Or.inr (slot_ne (Or.inl (own_at hw 52 rfl)) (Or.inl (own_at hw 54 rfl)) (by decide) (t := .long) (t' := .boolean) (by decide) (by decide)))
      have f87 := f61.same W79
      have f88 := f62.other W79 (Or.inr (slot_ne (Or.inl (own_at hw 56 rfl)) (Or.inl (own_at hw 54 rfl)) (by decide) (t := .boolean) (t' := .boolean) (by decide) (by decide)))
      have f89 := f63.other W79 (Or.inr (slot_ne (Or.inl (own_at hw 63 rfl)) (Or.inl (own_at hw 54 rfl)) (by decide) (t := (.array .int)) (t' := .boolean) (by decide) (by decide)))
      have f90 := f64.other W79 (Or.inr (slot_ne (Or.inl (own_at hw 74 rfl)) (Or.inl (own_at hw 54 rfl)) (by decide) (t := .int) (t' := .boolean) (by decide) (by decide)))
      have f91 := f65.other W79 (Or.inr (slot_ne (Or.inl (own_at hw 38 rfl)) (Or.inl (own_at hw 54 rfl)) (by decide) (t := .int) (t' := .boolean) (by decide) (by decide)))
      have f92 := f66.other W79 (Ne.symm n1)
      have f93 := f67.other W79 (Ne.symm n2)
      have f94 := f68.other W79 (Ne.symm n3)
      have f95 := f69.other W79 (Ne.symm n4)
      have f96 := f70.wr W79
      have f97 := f71.other W79 (Or.inl x1n)
      have f98 := f72.other W79 (Or.inl x1n)
      have K99 := K73.wr W79 (Or.inl (List.mem_of_getElem? (i := 0) rfl))
      have N100 := Fr.snoc X79 N74 gw0
      have Z101 : n0 ≤ h79.size := Nat.le_trans Z75 (Keep.of_wr W79).1
      show own_Goes _ _ _ _ _ _ _ (T79.setTop (mkF m 67 #[.val (.ref x0), .val (.long x1), .second, .val (.ref x2)] []))
      refine own_Goes.step (fun tq kq => XS.aloadN X79.here hx rfl (hb hby d5_67) rfl rfl kq) ?_
      show own_Goes _ _ _ _ _ _ _ (T79.setTop (mkF m 68 #[.val (.ref x0), .val (.long x1), .second, .val (.ref x2)] [(.ref x0)]))
      refine own_Goes.step (fun tq kq => XS.dup X79.here hx rfl (hb hby d5_68) rfl rfl kq) ?_
      show own_Goes _ _ _ _ _ _ _ (T79.setTop (mkF m 69 #[.val (.ref x0), .val (.long x1), .second, .val (.ref x2)] [(.ref x0), (.ref x0)]))
      obtain ⟨T102, X102, e102, st102⟩ := getF X79 hx hZ hown (host := "") (Or.inl (own_at hw 55 rfl)) Via.refl e79 f88 (g := (mkF m 69 #[.val (.ref x0), .val (.long x1), .second, .val (.ref x2)] [(.ref x0), (.ref x0)])) rfl rfl (hb hby d5_69)
      refine own_Goes.step st102 ?_
      show own_Goes _ _ _ _ _ _ _ (T102.setTop (mkF m 72 #[.val (.ref x0), .val (.long x1), .second, .val (.ref x2)] [(.int (0 : Int32)), (.ref x0)]))
      refine own_Goes.step (fun tq kq => XS.aloadN X102.here hx rfl (hb hby d5_72) rfl rfl kq) ?_
      show own_Goes _ _ _ _ _ _ _ (T102.setTop (mkF m 73 #[.val (.ref x0), .val (.long x1), .second, .val (.ref x2)] [(.ref x2), (.int (0 : Int32)), (.ref x0)]))
      obtain ⟨w103, T103, L103, q103, Y103, st103⟩ := own_virt X102 hx hZ e102 f96 hown (own_at hw 57 rfl) (own_at hw 58 rfl) (own_at hw 60 rfl) (own_at hw 59 rfl) (own_at hw 2 rfl) (own_at hw 61 rfl) (by decide) (own_m7 l Z a0 hw [] x2 d h79 f98 ) (by decide) (W := 2) (by decide) (by decide) (by decide) (g := (mkF m 73 #[.val (.ref x0), .val (.long x1), .second, .val (.ref x2)] [(.ref x2), (.int (0 : Int32)), (.ref x0)])) rfl (by rw [hml]; rfl) (argsL := []) (rest := [(.int (0 : Int32)), (.ref x0)]) (lenOf pd_7 rfl) rfl (by show 2 * 0 + _ ≤ _; exact Nat.le_of_eq rfl) (hb hby d5_73)
      obtain ⟨e103, X103⟩ := own_clean q103 Y103 rfl rfl
      obtain ⟨rfl, -, -⟩ := q103
      refine own_Goes.step st103 ?_
      show own_Goes _ _ _ _ _ _ _ (T103.setTop (mkF m 76 #[.val (.ref x0), .val (.long x1), .second, .val (.ref x2)] [(.int (own_f7 d)), (.int (0 : Int32)), (.ref x0)]))
      refine own_Goes.step (fun tq kq => XT.ior X103.here hx rfl (hb hby d5_76) rfl kq) ?_
      show own_Goes _ _ _ _ _ _ _ (T103.setTop (mkF m 77 #[.val (.ref x0), .val (.long x1), .second, .val (.ref x2)] [(.int ((0 : Int32) ||| (own_f7 d))), (.ref x0)]))
      obtain ⟨T104, h104, X104, e104, W104, st104⟩ := putF X103 hx hZ hown (host := "") (Or.inl (own_at hw 55 rfl)) Via.refl e103 (v := (.int ((0 : Int32) ||| (own_f7 d)))) f88 f80 (Or.inl (own_at hw 56 rfl)) (own_at hw 20 rfl) (ty := .boolean) (by decide) (own_fit1 (own_orb (by first | exact Or.inl rfl | exact ham) (own_d7 hd))) (own_fit2 (own_orb (by first | exact Or.inl rfl | exact ham) (own_d7 hd))) (g := (mkF m 77 #[.val (.ref x0), .val (.long x1), .second, .val (.ref x2)] [(.int ((0 : Int32) ||| (own_f7 d))), (.ref x0)])) rfl rfl (hb hby d5_77)
      refine own_Goes.step st104 ?_
      have f105 := f80.wr W104
      have f106 := f81.other W104 (Or.inr (slot_ne (Or.inl (own_at hw 28 rfl)) (Or.inl (own_at hw 56 rfl)) (by decide) (t := (.array .long)) (t' := .boolean) (by decide) (by decide)))
      have f107 := f82.other W104 (Or.inr (slot_ne (Or.inl (own_at hw 30 rfl)) (Or.inl (own_at hw 56 rfl)) (by decide) (t := (.array .long)) (t' := .boolean) (by decide) (by decide)))
      have f108 := f83.other W104 (Or.inr (slot_ne (Or.inl (own_at hw 33 rfl)) (Or.inl (own_at hw 56 rfl)) (by decide) (t := (.array .boolean)) (t' := .boolean) (by decide) (by decide)))
      have f109 := f84.other W104 (Or.inr (slot_ne (Or.inl (own_at hw 36 rfl)) (Or.inl (own_at hw 56 rfl)) (by decide) (t := (.array .int)) (t' := .boolean) (by decide) (by decide)))
      have f110 := f85.other W104 (Or.inr (slot_ne (Or.inl (own_at hw 45 rfl)) (Or.inl (own_at hw 56 rfl)) (by decide) (t := .int) (t' := .boolean) (by decide) (by decide)))
      have f111 := f86.other W104 (Or.inr (slot_ne (Or.inl (own_at hw 52 rfl)) (Or.inl (own_at hw 56 rfl)) (by decide) (t := .long) (t' := .boolean) (by decide) (by decide)))
      have f112 := f87.other W104 (Or.inr (slot_ne (Or.inl (own_at hw 54 rfl)) (Or.inl (own_at hw 56 rfl)) (by decide) (t := .boolean) (t' := .boolean) (by decide) (by decide)))
      have f113 := f88.same W104
      have f114 := f89.other W104 (Or.inr (slot_ne (Or.inl (own_at hw 63 rfl)) (Or.inl (own_at hw 56 rfl)) (by decide) (t := (.array .int)) (t' := .boolean) (by decide) (by decide)))
      have f115 := f90.other W104 (Or.inr (slot_ne (Or.inl (own_at hw 74 rfl)) (Or.inl (own_at hw 56 rfl)) (by decide) (t := .int) (t' := .boolean) (by decide) (by decide)))
      have f116 := f91.other W104 (Or.inr (slot_ne (Or.inl (own_at hw 38 rfl)) (Or.inl (own_at hw 56 rfl)) (by decide) (t := .int) (t' := .boolean) (by decide) (by decide)))
      have f117 := f92.other W104 (Ne.symm n1)
      have f118 := f93.other W104 (Ne.symm n2)
      have f119 := f94.other W104 (Ne.symm n3)
      have f120 := f95.other W104 (Ne.symm n4)
      have f121 := f96.wr W104
      have f122 := f97.other W104 (Or.inl x1n)
      have f123 := f98.other W104 (Or.inl x1n)
      have K124 := K99.wr W104 (Or.inl (List.mem_of_getElem? (i := 0) rfl))
      have N125 := Fr.snoc X104 N100 gw0
      have Z126 : n0 ≤ h104.size := Nat.le_trans Z101 (Keep.of_wr W104).1
      show own_Goes _ _ _ _ _ _ _ (T104.setTop (mkF m 80 #[.val (.ref x0), .val (.long x1), .second, .val (.ref x2)] []))
      refine own_Goes.step (fun tq kq => XS.aloadN X104.here hx rfl (hb hby d5_80) rfl rfl kq) ?_
      show own_Goes _ _ _ _ _ _ _ (T104.setTop (mkF m 81 #[.val (.ref x0), .val (.long x1), .second, .val (.ref x2)] [(.ref x0)]))
      obtain ⟨T127, X127, e127, st127⟩ := getF X104 hx hZ hown (host := "") (Or.inl (own_at hw 27 rfl)) Via.refl e104 f106 (g := (mkF m 81 #[.val (.ref x0), .val (.long x1), .second, .val (.ref x2)] [(.ref x0)])) rfl rfl (hb hby d5_81)
      refine own_Goes.step st127 ?_
      show own_Goes _ _ _ _ _ _ _ (T127.setTop (mkF m 84 #[.val (.ref x0), .val (.long x1), .second, .val (.ref x2)] [(.ref kA)]))
      refine own_Goes.step (fun tq kq => XS.aloadN X127.here hx rfl (hb hby d5_84) rfl rfl kq) ?_
      show own_Goes _ _ _ _ _ _ _ (T127.setTop (mkF m 85 #[.val (.ref x0), .val (.long x1), .second, .val (.ref x2)] [(.ref x0), (.ref kA)]))
      obtain ⟨T128, X128, e128, st128⟩ := getF X127 hx hZ hown (host := "") (Or.inl (own_at hw 44 rfl)) Via.refl e127 f110 (g := (mkF m 85 #[.val (.ref x0), .val (.long x1), .second, .val (.ref x2)] [(.ref x0), (.ref kA)])) rfl rfl (hb hby d5_85)
      refine own_Goes.step st128 ?_
      show own_Goes _ _ _ _ _ _ _ (T128.setTop (mkF m 88 #[.val (.ref x0), .val (.long x1), .second, .val (.ref x2)] [(.int (Int32.ofNat cnt)), (.ref kA)]))
      refine own_Goes.step (fun tq kq => XT.lloadN X128.here hx rfl (hb hby d5_88) rfl kq) ?_
      show own_Goes _ _ _ _ _ _ _ (T128.setTop (mkF m 89 #[.val (.ref x0), .val (.long x1), .second, .val (.ref x2)] [(.long x1), (.int (Int32.ofNat cnt)), (.ref kA)]))
      obtain ⟨T129, h129, X129, e129, W129, st129⟩ := own_last X128 hx hZ e128 f117 (i := cnt) (own_toI (by omega)) hc16 (g := (mkF m 89 #[.val (.ref x0), .val (.long x1), .second, .val (.ref x2)] [(.long x1), (.int (Int32.ofNat cnt)), (.ref kA)])) rfl rfl (hb hby d5_89)
      refine own_Goes.step st129 ?_
      have f130 := f105.wr W129
      have f131 := f106.other W129 (Or.inl n1)
      have f132 := f107.other W129 (Or.inl n1)
      have f133 := f108.other W129 (Or.inl n1)
      have f134 := f109.other W129 (Or.inl n1)
      have f135 := f110.other W129 (Or.inl n1)
      have f136 := f111.other W129 (Or.inl n1)
      have f137 := f112.other W129 (Or.inl n1)
      have f138 := f113.other W129 (Or.inl n1)
      have f139 := f114.other W129 (Or.inl n1)
      have f140 := f115.other W129 (Or.inl n1)
      have f141 := f116.other W129 (Or.inl n1)
      have f142 : own_Ar Z h129 kA .long 16 (fun uu => .long ((fun j => if j = cnt then x1 else K j) uu)) := (f117.set W129).congr fun j _ => by dsimp only; exact (apply_ite Value.long _ _ _).symm
      have f143 := f118.other W129 (Ne.symm n5)
      have f144 := f119.other W129 (Ne.symm n6)
      have f145 := f120.other W129 (Ne.symm n7)
      have f146 := f121.wr W129
      have f147 := f122.other W129 (Or.inl x2n)
      have f148 := f123.other W129 (Or.inl x2n)
      have K149 := K124.wr W129 (Or.inl (List.mem_of_getElem? (i := 1) rfl))
      have N150 := Fr.snoc X129 N125 gw1
      have Z151 : n0 ≤ h129.size := Nat.le_trans Z126 (Keep.of_wr W129).1
      show own_Goes _ _ _ _ _ _ _ (T129.setTop (mkF m 90 #[.val (.ref x0), .val (.long x1), .second, .val (.ref x2)] []))
      refine own_Goes.step (fun tq kq => XS.aloadN X129.here hx rfl (hb hby d5_90) rfl rfl kq) ?_
      show own_Goes _ _ _ _ _ _ _ (T129.setTop (mkF m 91 #[.val (.ref x0), .val (.long x1), .second, .val (.ref x2)] [(.ref x0)]))
      obtain ⟨T152, X152, e152, st152⟩ := getF X129 hx hZ hown (host := "") (Or.inl (own_at hw 29 rfl)) Via.refl e129 f132 (g := (mkF m 91 #[.val (.ref x0), .val (.long x1), .second, .val (.ref x2)] [(.ref x0)])) rfl rfl (hb hby d5_91)
      refine own_Goes.step st152 ?_
      show own_Goes _ _ _ _ _ _ _ (T152.setTop (mkF m 94 #[.val (.ref x0), .val (.long x1), .second, .val (.ref x2)] [(.ref sA)]))
      refine own_Goes.step (fun tq kq => XS.aloadN X152.here hx rfl (hb hby d5_94) rfl rfl kq) ?_
      show own_Goes _ _ _ _ _ _ _ (T152.setTop (mkF m 95 #[.val (.ref x0), .val (.long x1), .second, .val (.ref x2)] [(.ref x0), (.ref sA)]))
      obtain ⟨T153, X153, e153, st153⟩ := getF X152 hx hZ hown (host := "") (Or.inl (own_at hw 44 rfl)) Via.refl e152 f135 (g := (mkF m 95 #[.val (.ref x0), .val (.long x1), .second, .val (.ref x2)] [(.ref x0), (.ref sA)])) rfl rfl (hb hby d5_95)
      refine own_Goes.step st153 ?_
      show own_Goes _ _ _ _ _ _ _ (T153.setTop (mkF m 98 #[.val (.ref x0), .val (.long x1), .second, .val (.ref x2)] [(.int (Int32.ofNat cnt)), (.ref sA)]))
      refine own_Goes.step (fun tq kq => XS.aloadN X153.here hx rfl (hb hby d5_98) rfl rfl kq) ?_
      show own_Goes _ _ _ _ _ _ _ (T153.setTop (mkF m 99 #[.val (.ref x0), .val (.long x1), .second, .val (.ref x2)] [(.ref x2), (.int (Int32.ofNat cnt)), (.ref sA)]))
      obtain ⟨w154, T154, L154, q154, Y154, st154⟩ := own_virt X153 hx hZ e153 f146 hown (own_at hw 46 rfl) (own_at hw 47 rfl) (own_at hw 49 rfl) (own_at hw 48 rfl) (own_at hw 2 rfl) (own_at hw 50 rfl) (by decide) (own_m6 l Z a0 hw [] x2 z h129 f147 ) (by decide) (W := 2) (by decide) (by decide) (by decide) (g := (mkF m 99 #[.val (.ref x0), .val (.long x1), .second, .val (.ref x2)] [(.ref x2), (.int (Int32.ofNat cnt)), (.ref sA)])) rfl (by rw [hml]; rfl) (argsL := []) (rest := [(.int (Int32.ofNat cnt)), (.ref sA)]) (lenOf pd_6 rfl) rfl (by show 2 * 0 + _ ≤ _; exact Nat.le_of_eq rfl) (hb hby d5_99)
      obtain ⟨e154, X154⟩ := own_clean q154 Y154 rfl rfl
      obtain ⟨rfl, -, -⟩ := q154
      refine own_Goes.step st154 ?_
      show own_Goes _ _ _ _ _ _ _ (T154.setTop (mkF m 102 #[.val (.ref x0), .val (.long x1), .second, .val (.ref x2)] [(.long (own_f6 z)), (.int (Int32.ofNat cnt)), (.ref sA)]))
      obtain ⟨T155, h155, X155, e155, W155, st155⟩ := own_last X154 hx hZ e154 f143 (i := cnt) (own_toI (by omega)) hc16 (g := (mkF m 102 #[.val (.ref x0), .val (.long x1), .second, .val (.ref x2)] [(.long (own_f6 z)), (.int (Int32.ofNat cnt)), (.ref sA)])) rfl rfl (hb hby d5_102)
      refine own_Goes.step st155 ?_
      have f156 := f130.wr W155
      have f157 := f131.other W155 (Or.inl n2)
      have f158 := f132.other W155 (Or.inl n2)
      have f159 := f133.other W155 (Or.inl n2)
      have f160 := f134.other W155 (Or.inl n2)
      have f161 := f135.other W155 (Or.inl n2)
      have f162 := f136.other W155 (Or.inl n2)
      have f163 := f137.other W155 (Or.inl n2)
      have f164 := f138.other W155 (Or.inl n2)
      have f165 := f139.other W155 (Or.inl n2)
      have f166 := f140.other W155 (Or.inl n2)
      have f167 := f141.other W155 (Or.inl n2)
      have f168 := f142.other W155 n5
      have f169 : own_Ar Z h155 sA .long 16 (fun uu => .long ((fun j => if j = cnt then (own_f6 z) else Sz j) uu)) := (f143.set W155).congr fun j _ => by dsimp only; exact (apply_ite Value.long _ _ _).symm
      have f170 := f144.other W155 (Ne.symm n8)
      have f171 := f145.other W155 (Ne.symm n9)
      have f172 := f146.wr W155
      have f173 := f147.other W155 (Or.inl x3n)
      have f174 := f148.other W155 (Or.inl x3n)
      have K175 := K149.wr W155 (Or.inl (List.mem_of_getElem? (i := 2) rfl))
      have N176 := Fr.snoc X155 N150 gw2
      have Z177 : n0 ≤ h155.size := Nat.le_trans Z151 (Keep.of_wr W155).1
      show own_Goes _ _ _ _ _ _ _ (T155.setTop (mkF m 103 #[.val (.ref x0), .val (.long x1), .second, .val (.ref x2)] []))
      refine own_Goes.step (fun tq kq => XS.aloadN X155.here hx rfl (hb hby d5_103) rfl rfl kq) ?_
      show own_Goes _ _ _ _ _ _ _ (T155.setTop (mkF m 104 #[.val (.ref x0), .val (.long x1), .second, .val (.ref x2)] [(.ref x0)]))
      obtain ⟨T178, X178, e178, st178⟩ := getF X155 hx hZ hown (host := "") (Or.inl (own_at hw 32 rfl)) Via.refl e155 f159 (g := (mkF m 104 #[.val (.ref x0), .val (.long x1), .second, .val (.ref x2)] [(.ref x0)])) rfl rfl (hb hby d5_104)
      refine own_Goes.step st178 ?_
      show own_Goes _ _ _ _ _ _ _ (T178.setTop (mkF m 107 #[.val (.ref x0), .val (.long x1), .second, .val (.ref x2)] [(.ref dA)]))
      refine own_Goes.step (fun tq kq => XS.aloadN X178.here hx rfl (hb hby d5_107) rfl rfl kq) ?_
      show own_Goes _ _ _ _ _ _ _ (T178.setTop (mkF m 108 #[.val (.ref x0), .val (.long x1), .second, .val (.ref x2)] [(.ref x0), (.ref dA)]))
      obtain ⟨T179, X179, e179, st179⟩ := getF X178 hx hZ hown (host := "") (Or.inl (own_at hw 44 rfl)) Via.refl e178 f161 (g := (mkF m 108 #[.val (.ref x0), .val (.long x1), .second, .val (.ref x2)] [(.ref x0), (.ref dA)])) rfl rfl (hb hby d5_108)
      refine own_Goes.step st179 ?_
      show own_Goes _ _ _ _ _ _ _ (T179.setTop (mkF m 111 #[.val (.ref x0), .val (.long x1), .second, .val (.ref x2)] [(.int (Int32.ofNat cnt)), (.ref dA)]))
      refine own_Goes.step (fun tq kq => XS.aloadN X179.here hx rfl (hb hby d5_111) rfl rfl kq) ?_
      show own_Goes _ _ _ _ _ _ _ (T179.setTop (mkF m 112 #[.val (.ref x0), .val (.long x1), .second, .val (.ref x2)] [(.ref x2), (.int (Int32.ofNat cnt)), (.ref dA)]))
      obtain ⟨w180, T180, L180, q180, Y180, st180⟩ := own_virt X179 hx hZ e179 f172 hown (own_at hw 57 rfl) (own_at hw 58 rfl) (own_at hw 60 rfl) (own_at hw 59 rfl) (own_at hw 2 rfl) (own_at hw 61 rfl) (by decide) (own_m7 l Z a0 hw [] x2 d h155 f174 ) (by decide) (W := 2) (by decide) (by decide) (by decide) (g := (mkF m 112 #[.val (.ref x0), .val (.long x1), .second, .val (.ref x2)] [(.ref x2), (.int (Int32.ofNat cnt)), (.ref dA)])) rfl (by rw [hml]; rfl) (argsL := []) (rest := [(.int (Int32.ofNat cnt)), (.ref dA)]) (lenOf pd_7 rfl) rfl (by show 2 * 0 + _ ≤ _; exact Nat.le_of_eq rfl) (hb hby d5_112)
      obtain ⟨e180, X180⟩ := own_clean q180 Y180 rfl rfl
      obtain ⟨rfl, -, -⟩ := q180
      refine own_Goes.step st180 ?_
      show own_Goes _ _ _ _ _ _ _ (T180.setTop (mkF m 115 #[.val (.ref x0), .val (.long x1), .second, .val (.ref x2)] [(.int (own_f7 d)), (.int (Int32.ofNat cnt)), (.ref dA)]))
      obtain ⟨T181, h181, X181, e181, W181, st181⟩ := own_zast X180 hx hZ e180 f170 (i := cnt) (own_toI (by omega)) hc16 (g := (mkF m 115 #[.val (.ref x0), .val (.long x1), .second, .val (.ref x2)] [(.int (own_f7 d)), (.int (Int32.ofNat cnt)), (.ref dA)])) rfl rfl (hb hby d5_115)
      refine own_Goes.step st181 ?_
      have f182 := f156.wr W181
      have f183 := f157.other W181 (Or.inl n3)
      have f184 := f158.other W181 (Or.inl n3)
      have f185 := f159.other W181 (Or.inl n3)
      have f186 := f160.other W181 (Or.inl n3)
      have f187 := f161.other W181 (Or.inl n3)
      have f188 := f162.other W181 (Or.inl n3)
      have f189 := f163.other W181 (Or.inl n3)
      have f190 := f164.other W181 (Or.inl n3)
      have f191 := f165.other W181 (Or.inl n3)
      have f192 := f166.other W181 (Or.inl n3)
      have f193 := f167.other W181 (Or.inl n3)
      have f194 := f168.other W181 n6
      have f195 := f169.other W181 n8
      have f196 : own_Ar Z h181 dA .boolean 16 (fun uu => .int ((fun j => if j = cnt then (nar .boolean (own_f7 d)) else D j) uu)) := (f170.set W181).congr fun j _ => by dsimp only; exact (apply_ite Value.int _ _ _).symm
      have f197 := f171.other W181 (Ne.symm n10)
      have f198 := f172.wr W181
      have f199 := f173.other W181 (Or.inl x4n)
      have f200 := f174.other W181 (Or.inl x4n)
      have K201 := K175.wr W181 (Or.inl (List.mem_of_getElem? (i := 3) rfl))
      have N202 := Fr.snoc X181 N176 gw3
      have Z203 : n0 ≤ h181.size := Nat.le_trans Z177 (Keep.of_wr W181).1
      show own_Goes _ _ _ _ _ _ _ (T181.setTop (mkF m 116 #[.val (.ref x0), .val (.long x1), .second, .val (.ref x2)] []))
      refine own_Goes.step (fun tq kq => XS.aloadN X181.here hx rfl (hb hby d5_116) rfl rfl kq) ?_
      show own_Goes _ _ _ _ _ _ _ (T181.setTop (mkF m 117 #[.val (.ref x0), .val (.long x1), .second, .val (.ref x2)] [(.ref x0)]))
      refine own_Goes.step (fun tq kq => XS.dup X181.here hx rfl (hb hby d5_117) rfl rfl kq) ?_
      show own_Goes _ _ _ _ _ _ _ (T181.setTop (mkF m 118 #[.val (.ref x0), .val (.long x1), .second, .val (.ref x2)] [(.ref x0), (.ref x0)]))
      obtain ⟨T204, X204, e204, st204⟩ := getF X181 hx hZ hown (host := "") (Or.inl (own_at hw 44 rfl)) Via.refl e181 f187 (g := (mkF m 118 #[.val (.ref x0), .val (.long x1), .second, .val (.ref x2)] [(.ref x0), (.ref x0)])) rfl rfl (hb hby d5_118)
      refine own_Goes.step st204 ?_
      show own_Goes _ _ _ _ _ _ _ (T204.setTop (mkF m 121 #[.val (.ref x0), .val (.long x1), .second, .val (.ref x2)] [(.int (Int32.ofNat cnt)), (.ref x0)]))
      refine own_Goes.step (fun tq kq => XT.iconstV X204.here hx rfl (1 : Int32) (hb hby d5_121) (by decide) kq) ?_
      show own_Goes _ _ _ _ _ _ _ (T204.setTop (mkF m 122 #[.val (.ref x0), .val (.long x1), .second, .val (.ref x2)] [(.int (1 : Int32)), (.int (Int32.ofNat cnt)), (.ref x0)]))
      refine own_Goes.step (fun tq kq => XS.iadd X204.here hx rfl (hb hby d5_122) rfl kq) ?_
      show own_Goes _ _ _ _ _ _ _ (T204.setTop (mkF m 123 #[.val (.ref x0), .val (.long x1), .second, .val (.ref x2)] [(.int ((Int32.ofNat cnt) + (1 : Int32))), (.ref x0)]))
      obtain ⟨T205, h205, X205, e205, W205, st205⟩ := putF X204 hx hZ hown (host := "") (Or.inl (own_at hw 44 rfl)) Via.refl e204 (v := (.int ((Int32.ofNat cnt) + (1 : Int32)))) f187 f182 (Or.inl (own_at hw 45 rfl)) (own_at hw 20 rfl) (ty := .int) (by decide) rfl rfl (g := (mkF m 123 #[.val (.ref x0), .val (.long x1), .second, .val (.ref x2)] [(.int ((Int32.ofNat cnt) + (1 : Int32))), (.ref x0)])) rfl rfl (hb hby d5_123)
      refine own_Goes.step st205 ?_
      have f206 := f182.wr W205
      have f207 := f183.other W205 (Or.inr (slot_ne (Or.inl (own_at hw 28 rfl)) (Or.inl (own_at hw 45 rfl)) (by decide) (t := (.array .long)) (t' := .int) (by decide) (by decide)))
      have f208 := f184.other W205 (Or.inr (slot_ne (Or.inl (own_at hw 30 rfl)) (Or.inl (own_at hw 45 rfl)) (by decide) (t := (.array .long)) (t' := .int) (by decide) (by decide)))
      have f209 := f185.other W205 (Or.inr (slot_ne (Or.inl (own_at hw 33 rfl)) (Or.inl (own_at hw 45 rfl)) (by decide) (t := (.array .boolean)) (t' := .int) (by decide) (by decide)))
      have f210 := f186.other W205 (Or.inr (slot_ne (Or.inl (own_at hw 36 rfl)) (Or.inl (own_at hw 45 rfl)) (by decide) (t := (.array .int)) (t' := .int) (by decide) (by decide)))
      have f211 := f187.same W205
      have f212 := f188.other W205 (Or.inr (slot_ne (Or.inl (own_at hw 52 rfl)) (Or.inl (own_at hw 45 rfl)) (by decide) (t := .long) (t' := .int) (by decide) (by decide)))
      have f213 := f189.other W205 (Or.inr (slot_ne (Or.inl (own_at hw 54 rfl)) (Or.inl (own_at hw 45 rfl)) (by decide) (t := .boolean) (t' := .int) (by decide) (by decide)))
      have f214 := f190.other W205 (Or.inr (slot_ne (Or.inl (own_at hw 56 rfl)) (Or.inl (own_at hw 45 rfl)) (by decide) (t := .boolean) (t' := .int) (by decide) (by decide)))
      have f215 := f191.other W205 (Or.inr (slot_ne (Or.inl (own_at hw 63 rfl)) (Or.inl (own_at hw 45 rfl)) (by decide) (t := (.array .int)) (t' := .int) (by decide) (by decide)))
      have f216 := f192.other W205 (Or.inr (slot_ne (Or.inl (own_at hw 74 rfl)) (Or.inl (own_at hw 45 rfl)) (by decide) (t := .int) (t' := .int) (by decide) (by decide)))
      have f217 := f193.other W205 (Or.inr (slot_ne (Or.inl (own_at hw 38 rfl)) (Or.inl (own_at hw 45 rfl)) (by decide) (t := .int) (t' := .int) (by decide) (by decide)))
      have f218 := f194.other W205 (Ne.symm n1)
      have f219 := f195.other W205 (Ne.symm n2)
      have f220 := f196.other W205 (Ne.symm n3)
      have f221 := f197.other W205 (Ne.symm n4)
      have f222 := f198.wr W205
      have f223 := f199.other W205 (Or.inl x1n)
      have f224 := f200.other W205 (Or.inl x1n)
      have K225 := K201.wr W205 (Or.inl (List.mem_of_getElem? (i := 0) rfl))
      have N226 := Fr.snoc X205 N202 gw0
      have Z227 : n0 ≤ h205.size := Nat.le_trans Z203 (Keep.of_wr W205).1
      show own_Goes _ _ _ _ _ _ _ (T205.setTop (mkF m 126 #[.val (.ref x0), .val (.long x1), .second, .val (.ref x2)] []))
      refine own_Goes.step (fun tq kq => XS.aloadN X205.here hx rfl (hb hby d5_126) rfl rfl kq) ?_
      show own_Goes _ _ _ _ _ _ _ (T205.setTop (mkF m 127 #[.val (.ref x0), .val (.long x1), .second, .val (.ref x2)] [(.ref x0)]))
      obtain ⟨T228, X228, e228, st228⟩ := getF X205 hx hZ hown (host := "") (Or.inl (own_at hw 62 rfl)) Via.refl e205 f215 (g := (mkF m 127 #[.val (.ref x0), .val (.long x1), .second, .val (.ref x2)] [(.ref x0)])) rfl rfl (hb hby d5_127)
      refine own_Goes.step st228 ?_
      show own_Goes _ _ _ _ _ _ _ (T228.setTop (mkF m 130 #[.val (.ref x0), .val (.long x1), .second, .val (.ref x2)] [.null]))
      refine own_Goes.step (fun tq kq => XS.ifnullYes X228.here hx rfl (pc0 := 130) (pc' := 143) rfl (hb hby d5_130) rfl (by decide) (by decide) kq) ?_
      show own_Goes _ _ _ _ _ _ _ (T228.setTop (mkF m 143 #[.val (.ref x0), .val (.long x1), .second, .val (.ref x2)] []))
      refine own_endV X228 hx Bd.notSynchronized Bd.returns (hb hby d5_143) ?_ (by decide) (by decide)
      show own_F5n Z x0 x1 x2 kA sA dA pA K Sz D cnt fs mx am la ix z d n0 h0 _ T228.heap _
      rw [e228]
      refine ⟨rfl, N226, K225, (own_f6 z), ((0 : Int32) ||| (0 : Int32)), ((0 : Int32) ||| (own_f7 d)), fun _ => ⟨rfl, rfl, by rw [own_d7e hd]; exact own_or0 d⟩, ?_⟩
      exact ⟨f206, f207, f208, f209, f210, (own_cnt cnt ▸ f211), f212, f213, f214, f215, f216, f217, f218, f219, f220, f221, n1, n2, n3, n4, n5, n6, n7, n8, n9, n10, gw0, gw1, gw2, gw3, (Or.inl rfl), (own_orb (by first | exact Or.inl rfl | exact ham) (own_d7 hd))⟩
    · refine own_Goes.step (fun tq kq => XS.ifYes X4.here hx rfl (pc0 := 20) (pc' := 41) rfl (hb hby d5_20) rfl (XT.i0_ne_t hc5) (by decide) (by decide) kq) ?_
      show own_Goes _ _ _ _ _ _ _ (T4.setTop (mkF m 41 #[.val (.ref x0), .val (.long x1), .second, .val (.ref x2)] []))
      refine own_Goes.step (fun tq kq => XS.aloadN X4.here hx rfl (hb hby d5_41) rfl rfl kq) ?_
      show own_Goes _ _ _ _ _ _ _ (T4.setTop (mkF m 42 #[.val (.ref x0), .val (.long x1), .second, .val (.ref x2)] [(.ref x0)]))
      refine own_Goes.step (fun tq kq => XS.dup X4.here hx rfl (hb hby d5_42) rfl rfl kq) ?_
      show own_Goes _ _ _ _ _ _ _ (T4.setTop (mkF m 43 #[.val (.ref x0), .val (.long x1), .second, .val (.ref x2)] [(.ref x0), (.ref x0)]))
      obtain ⟨T230, X230, e230, st230⟩ := getF X4 hx hZ hown (host := "") (Or.inl (own_at hw 53 rfl)) Via.refl e4 P6 (g := (mkF m 43 #[.val (.ref x0), .val (.long x1), .second, .val (.ref x2)] [(.ref x0), (.ref x0)])) rfl rfl (hb hby d5_43)
      refine own_Goes.step st230 ?_
      show own_Goes _ _ _ _ _ _ _ (T230.setTop (mkF m 46 #[.val (.ref x0), .val (.long x1), .second, .val (.ref x2)] [(.int mx), (.ref x0)]))
      refine own_Goes.step (fun tq kq => XS.aloadN X230.here hx rfl (hb hby d5_46) rfl rfl kq) ?_
      show own_Goes _ _ _ _ _ _ _ (T230.setTop (mkF m 47 #[.val (.ref x0), .val (.long x1), .second, .val (.ref x2)] [(.ref x2), (.int mx), (.ref x0)]))
      obtain ⟨w231, T231, L231, q231, Y231, st231⟩ := own_virt X230 hx hZ e230 EE hown (own_at hw 46 rfl) (own_at hw 47 rfl) (own_at hw 49 rfl) (own_at hw 48 rfl) (own_at hw 2 rfl) (own_at hw 50 rfl) (by decide) (own_m6 l Z a0 hw [] x2 z h0 PE0 ) (by decide) (W := 2) (by decide) (by decide) (by decide) (g := (mkF m 47 #[.val (.ref x0), .val (.long x1), .second, .val (.ref x2)] [(.ref x2), (.int mx), (.ref x0)])) rfl (by rw [hml]; rfl) (argsL := []) (rest := [(.int mx), (.ref x0)]) (lenOf pd_6 rfl) rfl (by show 2 * 0 + _ ≤ _; exact Nat.le_of_eq rfl) (hb hby d5_47)
      obtain ⟨e231, X231⟩ := own_clean q231 Y231 rfl rfl
      obtain ⟨rfl, -, -⟩ := q231
      refine own_Goes.step st231 ?_
      show own_Goes _ _ _ _ _ _ _ (T231.setTop (mkF m 50 #[.val (.ref x0), .val (.long x1), .second, .val (.ref x2)] [(.long (own_f6 z)), (.int mx), (.ref x0)]))
      refine own_Goes.step (fun tq kq => XS.aloadN X231.here hx rfl (hb hby d5_50) rfl rfl kq) ?_
      show own_Goes _ _ _ _ _ _ _ (T231.setTop (mkF m 51 #[.val (.ref x0), .val (.long x1), .second, .val (.ref x2)] [(.ref x0), (.long (own_f6 z)), (.int mx), (.ref x0)]))
      obtain ⟨T232, X232, e232, st232⟩ := getF X231 hx hZ hown (host := "") (Or.inl (own_at hw 51 rfl)) Via.refl e231 P5 (g := (mkF m 51 #[.val (.ref x0), .val (.long x1), .second, .val (.ref x2)] [(.ref x0), (.long (own_f6 z)), (.int mx), (.ref x0)])) rfl rfl (hb hby d5_51)
      refine own_Goes.step st232 ?_
      show own_Goes _ _ _ _ _ _ _ (T232.setTop (mkF m 54 #[.val (.ref x0), .val (.long x1), .second, .val (.ref x2)] [(.long fs), (.long (own_f6 z)), (.int mx), (.ref x0)]))
      refine own_Goes.step (fun tq kq => XT.lcmp X232.here hx rfl (hb hby d5_54) rfl kq) ?_
      show own_Goes _ _ _ _ _ _ _ (T232.setTop (mkF m 55 #[.val (.ref x0), .val (.long x1), .second, .val (.ref x2)] [(.int (XT.cmpL (own_f6 z) fs)), (.int mx), (.ref x0)]))
      have J385 : own_Goes p e below s (own_F5n Z x0 x1 x2 kA sA dA pA K Sz D cnt fs mx am la ix z d n0 h0) 0 0 (T232.setTop (mkF m 63 #[.val (.ref x0), .val (.long x1), .second, .val (.ref x2)] [(.int (own_f5n_1 z fs)), (.int mx), (.ref x0)])) := by
        refine own_Goes.step (fun tq kq => XT.ior X232.here hx rfl (hb hby d5_63) rfl kq) ?_
        show own_Goes _ _ _ _ _ _ _ (T232.setTop (mkF m 64 #[.val (.ref x0), .val (.long x1), .second, .val (.ref x2)] [(.int (mx ||| (own_f5n_1 z fs))), (.ref x0)]))
        obtain ⟨T234, h234, X234, e234, W234, st234⟩ := putF X232 hx hZ hown (host := "") (Or.inl (own_at hw 53 rfl)) Via.refl e232 (v := (.int (mx ||| (own_f5n_1 z fs)))) P6 E0 (Or.inl (own_at hw 54 rfl)) (own_at hw 20 rfl) (ty := .boolean) (by decide) (own_fit1 (own_orb (by first | exact Or.inl rfl | exact hmx) (by unfold own_f5n_1; split <;> first | exact Or.inl rfl | exact Or.inr rfl))) (own_fit2 (own_orb (by first | exact Or.inl rfl | exact hmx) (by unfold own_f5n_1; split <;> first | exact Or.inl rfl | exact Or.inr rfl))) (g := (mkF m 64 #[.val (.ref x0), .val (.long x1), .second, .val (.ref x2)] [(.int (mx ||| (own_f5n_1 z fs))), (.ref x0)])) rfl rfl (hb hby d5_64)
        refine own_Goes.step st234 ?_
        have f235 := E0.wr W234
        have f236 := P0.other W234 (Or.inr (slot_ne (Or.inl (own_at hw 28 rfl)) (Or.inl (own_at hw 54 rfl)) (by decide) (t := (.array .long)) (t' := .boolean) (by decide) (by decide)))
        have f237 := P1.other W234 (Or.inr (slot_ne (Or.inl (own_at hw 30 rfl)) (Or.inl (own_at hw 54 rfl)) (by decide) (t := (.array .long)) (t' := .boolean) (by decide) (by decide)))
        have f238 := P2.other W234 (Or.inr (slot_ne (Or.inl (own_at hw 33 rfl)) (Or.inl (own_at hw 54 rfl)) (by decide) (t := (.array .boolean)) (t' := .boolean) (by decide) (by decide)))
        have f239 := P3.other W234 (Or.inr (slot_ne (Or.inl (own_at hw 36 rfl)) (Or.inl (own_at hw 54 rfl)) (by decide) (t := (.array .int)) (t' := .boolean) (by decide) (by decide)))
        have f240 := P4.other W234 (Or.inr (slot_ne (Or.inl (own_at hw 45 rfl)) (Or.inl (own_at hw 54 rfl)) (by decide) (t := .int) (t' := .boolean) (by decide) (by decide)))
        have f241 := P5.other W234 (Or.inr (slot_ne (Or.inl (own_at hw 52 rfl)) (Or.inl (own_at hw 54 rfl)) (by decide) (t := .long) (t' := .boolean) (by decide) (by decide)))
        have f242 := P6.same W234
        have f243 := P7.other W234 (Or.inr (slot_ne (Or.inl (own_at hw 56 rfl)) (Or.inl (own_at hw 54 rfl)) (by decide) (t := .boolean) (t' := .boolean) (by decide) (by decide)))
        have f244 := P8.other W234 (Or.inr (slot_ne (Or.inl (own_at hw 63 rfl)) (Or.inl (own_at hw 54 rfl)) (by decide) (t := (.array .int)) (t' := .boolean) (by decide) (by decide)))
        have f245 := P9.other W234 (Or.inr (slot_ne (Or.inl (own_at hw 74 rfl)) (Or.inl (own_at hw 54 rfl)) (by decide) (t := .int) (t' := .boolean) (by decide) (by decide)))
        have f246 := P10.other W234 (Or.inr (slot_ne (Or.inl (own_at hw 38 rfl)) (Or.inl (own_at hw 54 rfl)) (by decide) (t := .int) (t' := .boolean) (by decide) (by decide)))
        have f247 := R0.other W234 (Ne.symm n1)
        have f248 := R1.other W234 (Ne.symm n2)
        have f249 := R2.other W234 (Ne.symm n3)
        have f250 := R3.other W234 (Ne.symm n4)
        have f251 := EE.wr W234
        have f252 := PE0.other W234 (Or.inl x1n)
        have f253 := PE1.other W234 (Or.inl x1n)
        have K254 := K0.wr W234 (Or.inl (List.mem_of_getElem? (i := 0) rfl))
        have N255 := Fr.snoc X234 N0 gw0
        have Z256 : n0 ≤ h234.size := Nat.le_trans Z0 (Keep.of_wr W234).1
        show own_Goes _ _ _ _ _ _ _ (T234.setTop (mkF m 67 #[.val (.ref x0), .val (.long x1), .second, .val (.ref x2)] []))
        refine own_Goes.step (fun tq kq => XS.aloadN X234.here hx rfl (hb hby d5_67) rfl rfl kq) ?_
        show own_Goes _ _ _ _ _ _ _ (T234.setTop (mkF m 68 #[.val (.ref x0), .val (.long x1), .second, .val (.ref x2)] [(.ref x0)]))
        refine own_Goes.step (fun tq kq => XS.dup X234.here hx rfl (hb hby d5_68) rfl rfl kq) ?_
        show own_Goes _ _ _ _ _ _ _ (T234.setTop (mkF m 69 #[.val (.ref x0), .val (.long x1), .second, .val (.ref x2)] [(.ref x0), (.ref x0)]))
        obtain ⟨T257, X257, e257, st257⟩ := getF X234 hx hZ hown (host := "") (Or.inl (own_at hw 55 rfl)) Via.refl e234 f243 (g := (mkF m 69 #[.val (.ref x0), .val (.long x1), .second, .val (.ref x2)] [(.ref x0), (.ref x0)])) rfl rfl (hb hby d5_69)
        refine own_Goes.step st257 ?_
        show own_Goes _ _ _ _ _ _ _ (T257.setTop (mkF m 72 #[.val (.ref x0), .val (.long x1), .second, .val (.ref x2)] [(.int am), (.ref x0)]))
        refine own_Goes.step (fun tq kq => XS.aloadN X257.here hx rfl (hb hby d5_72) rfl rfl kq) ?_
        show own_Goes _ _ _ _ _ _ _ (T257.setTop (mkF m 73 #[.val (.ref x0), .val (.long x1), .second, .val (.ref x2)] [(.ref x2), (.int am), (.ref x0)]))
        obtain ⟨w258, T258, L258, q258, Y258, st258⟩ := own_virt X257 hx hZ e257 f251 hown (own_at hw 57 rfl) (own_at hw 58 rfl) (own_at hw 60 rfl) (own_at hw 59 rfl) (own_at hw 2 rfl) (own_at hw 61 rfl) (by decide) (own_m7 l Z a0 hw [] x2 d h234 f253 ) (by decide) (W := 2) (by decide) (by decide) (by decide) (g := (mkF m 73 #[.val (.ref x0), .val (.long x1), .second, .val (.ref x2)] [(.ref x2), (.int am), (.ref x0)])) rfl (by rw [hml]; rfl) (argsL := []) (rest := [(.int am), (.ref x0)]) (lenOf pd_7 rfl) rfl (by show 2 * 0 + _ ≤ _; exact Nat.le_of_eq rfl) (hb hby d5_73)
        obtain ⟨e258, X258⟩ := own_clean q258 Y258 rfl rfl
        obtain ⟨rfl, -, -⟩ := q258
        refine own_Goes.step st258 ?_
        show own_Goes _ _ _ _ _ _ _ (T258.setTop (mkF m 76 #[.val (.ref x0), .val (.long x1), .second, .val (.ref x2)] [(.int (own_f7 d)), (.int am), (.ref x0)]))
        refine own_Goes.step (fun tq kq => XT.ior X258.here hx rfl (hb hby d5_76) rfl kq) ?_
        show own_Goes _ _ _ _ _ _ _ (T258.setTop (mkF m 77 #[.val (.ref x0), .val (.long x1), .second, .val (.ref x2)] [(.int (am ||| (own_f7 d))), (.ref x0)]))
        obtain ⟨T259, h259, X259, e259, W259, st259⟩ := putF X258 hx hZ hown (host := "") (Or.inl (own_at hw 55 rfl)) Via.refl e258 (v := (.int (am ||| (own_f7 d)))) f243 f235 (Or.inl (own_at hw 56 rfl)) (own_at hw 20 rfl) (ty := .boolean) (by decide) (own_fit1 (own_orb (by first | exact Or.inl rfl | exact ham) (own_d7 hd))) (own_fit2 (own_orb (by first | exact Or.inl rfl | exact ham) (own_d7 hd))) (g := (mkF m 77 #[.val (.ref x0), .val (.long x1), .second, .val (.ref x2)] [(.int (am ||| (own_f7 d))), (.ref x0)])) rfl rfl (hb hby d5_77)
        refine own_Goes.step st259 ?_
        have f260 := f235.wr W259
        have f261 := f236.other W259 (Or.inr (slot_ne (Or.inl (own_at hw 28 rfl)) (Or.inl (own_at hw 56 rfl)) (by decide) (t := (.array .long)) (t' := .boolean) (by decide) (by decide)))
        have f262 := f237.other W259 (Or.inr (slot_ne (Or.inl (own_at hw 30 rfl)) (Or.inl (own_at hw 56 rfl)) (by decide) (t := (.array .long)) (t' := .boolean) (by decide) (by decide)))
        have f263 := f238.other W259 (Or.inr (slot_ne (Or.inl (own_at hw 33 rfl)) (Or.inl (own_at hw 56 rfl)) (by decide) (t := (.array .boolean)) (t' := .boolean) (by decide) (by decide)))
        have f264 := f239.other W259 (Or.inr (slot_ne (Or.inl (own_at hw 36 rfl)) (Or.inl (own_at hw 56 rfl)) (by decide) (t := (.array .int)) (t' := .boolean) (by decide) (by decide)))
        have f265 := f240.other W259 (Or.inr (slot_ne (Or.inl (own_at hw 45 rfl)) (Or.inl (own_at hw 56 rfl)) (by decide) (t := .int) (t' := .boolean) (by decide) (by decide)))
        have f266 := f241.other W259 (Or.inr (slot_ne (Or.inl (own_at hw 52 rfl)) (Or.inl (own_at hw 56 rfl)) (by decide) (t := .long) (t' := .boolean) (by decide) (by decide)))
        have f267 := f242.other W259 (Or.inr (slot_ne (Or.inl (own_at hw 54 rfl)) (Or.inl (own_at hw 56 rfl)) (by decide) (t := .boolean) (t' := .boolean) (by decide) (by decide)))
        have f268 := f243.same W259
        have f269 := f244.other W259 (Or.inr (slot_ne (Or.inl (own_at hw 63 rfl)) (Or.inl (own_at hw 56 rfl)) (by decide) (t := (.array .int)) (t' := .boolean) (by decide) (by decide)))
        have f270 := f245.other W259 (Or.inr (slot_ne (Or.inl (own_at hw 74 rfl)) (Or.inl (own_at hw 56 rfl)) (by decide) (t := .int) (t' := .boolean) (by decide) (by decide)))
        have f271 := f246.other W259 (Or.inr (slot_ne (Or.inl (own_at hw 38 rfl)) (Or.inl (own_at hw 56 rfl)) (by decide) (t := .int) (t' := .boolean) (by decide) (by decide)))
        have f272 := f247.other W259 (Ne.symm n1)
        have f273 := f248.other W259 (Ne.symm n2)
        have f274 := f249.other W259 (Ne.symm n3)
        have f275 := f250.other W259 (Ne.symm n4)
        have f276 := f251.wr W259
        have f277 := f252.other W259 (Or.inl x1n)
        have f278 := f253.other W259 (Or.inl x1n)
        have K279 := K254.wr W259 (Or.inl (List.mem_of_getElem? (i := 0) rfl))
        have N280 := Fr.snoc X259 N255 gw0
        have Z281 : n0 ≤ h259.size := Nat.le_trans Z256 (Keep.of_wr W259).1
        show own_Goes _ _ _ _ _ _ _ (T259.setTop (mkF m 80 #[.val (.ref x0), .val (.long x1), .second, .val (.ref x2)] []))
        refine own_Goes.step (fun tq kq => XS.aloadN X259.here hx rfl (hb hby d5_80) rfl rfl kq) ?_
        show own_Goes _ _ _ _ _ _ _ (T259.setTop (mkF m 81 #[.val (.ref x0), .val (.long x1), .second, .val (.ref x2)] [(.ref x0)]))
        obtain ⟨T282, X282, e282, st282⟩ := getF X259 hx hZ hown (host := "") (Or.inl (own_at hw 27 rfl)) Via.refl e259 f261 (g := (mkF m 81 #[.val (.ref x0), .val (.long x1), .second, .val (.ref x2)] [(.ref x0)])) rfl rfl (hb hby d5_81)
        refine own_Goes.step st282 ?_
        show own_Goes _ _ _ _ _ _ _ (T282.setTop (mkF m 84 #[.val (.ref x0), .val (.long x1), .second, .val (.ref x2)] [(.ref kA)]))
        refine own_Goes.step (fun tq kq => XS.aloadN X282.here hx rfl (hb hby d5_84) rfl rfl kq) ?_
        show own_Goes _ _ _ _ _ _ _ (T282.setTop (mkF m 85 #[.val (.ref x0), .val (.long x1), .second, .val (.ref x2)] [(.ref x0), (.ref kA)]))
        obtain ⟨T283, X283, e283, st283⟩ := getF X282 hx hZ hown (host := "") (Or.inl (own_at hw 44 rfl)) Via.refl e282 f265 (g := (mkF m 85 #[.val (.ref x0), .val (.long x1), .second, .val (.ref x2)] [(.ref x0), (.ref kA)])) rfl rfl (hb hby d5_85)
        refine own_Goes.step st283 ?_
        show own_Goes _ _ _ _ _ _ _ (T283.setTop (mkF m 88 #[.val (.ref x0), .val (.long x1), .second, .val (.ref x2)] [(.int (Int32.ofNat cnt)), (.ref kA)]))
        refine own_Goes.step (fun tq kq => XT.lloadN X283.here hx rfl (hb hby d5_88) rfl kq) ?_
        show own_Goes _ _ _ _ _ _ _ (T283.setTop (mkF m 89 #[.val (.ref x0), .val (.long x1), .second, .val (.ref x2)] [(.long x1), (.int (Int32.ofNat cnt)), (.ref kA)]))
        obtain ⟨T284, h284, X284, e284, W284, st284⟩ := own_last X283 hx hZ e283 f272 (i := cnt) (own_toI (by omega)) hc16 (g := (mkF m 89 #[.val (.ref x0), .val (.long x1), .second, .val (.ref x2)] [(.long x1), (.int (Int32.ofNat cnt)), (.ref kA)])) rfl rfl (hb hby d5_89)
        refine own_Goes.step st284 ?_
        have f285 := f260.wr W284
        have f286 := f261.other W284 (Or.inl n1)
        have f287 := f262.other W284 (Or.inl n1)
        have f288 := f263.other W284 (Or.inl n1)
        have f289 := f264.other W284 (Or.inl n1)
        have f290 := f265.other W284 (Or.inl n1)
        have f291 := f266.other W284 (Or.inl n1)
        have f292 := f267.other W284 (Or.inl n1)
        have f293 := f268.other W284 (Or.inl n1)
        have f294 := f269.other W284 (Or.inl n1)
        have f295 := f270.other W284 (Or.inl n1)
        have f296 := f271.other W284 (Or.inl n1)
        have f297 : own_Ar Z h284 kA .long 16 (fun uu => .long ((fun j => if j = cnt then x1 else K j) uu)) := (f272.set W284).congr fun j _ => by dsimp only; exact (apply_ite Value.long _ _ _).symm
        have f298 := f273.other W284 (Ne.symm n5)
        have f299 := f274.other W284 (Ne.symm n6)
        have f300 := f275.other W284 (Ne.symm n7)
        have f301 := f276.wr W284
        have f302 := f277.other W284 (Or.inl x2n)
        have f303 := f278.other W284 (Or.inl x2n)
        have K304 := K279.wr W284 (Or.inl (List.mem_of_getElem? (i := 1) rfl))
        have N305 := Fr.snoc X284 N280 gw1
        have Z306 : n0 ≤ h284.size := Nat.le_trans Z281 (Keep.of_wr W284).1
        show own_Goes _ _ _ _ _ _ _ (T284.setTop (mkF m 90 #[.val (.ref x0), .val (.long x1), .second, .val (.ref x2)] []))
        refine own_Goes.step (fun tq kq => XS.aloadN X284.here hx rfl (hb hby d5_90) rfl rfl kq) ?_
        show own_Goes _ _ _ _ _ _ _ (T284.setTop (mkF m 91 #[.val (.ref x0), .val (.long x1), .second, .val (.ref x2)] [(.ref x0)]))
        obtain ⟨T307, X307, e307, st307⟩ := getF X284 hx hZ hown (host := "") (Or.inl (own_at hw 29 rfl)) Via.refl e284 f287 (g := (mkF m 91 #[.val (.ref x0), .val (.long x1), .second, .val (.ref x2)] [(.ref x0)])) rfl rfl (hb hby d5_91)
        refine own_Goes.step st307 ?_
        show own_Goes _ _ _ _ _ _ _ (T307.setTop (mkF m 94 #[.val (.ref x0), .val (.long x1), .second, .val (.ref x2)] [(.ref sA)]))
        refine own_Goes.step (fun tq kq => XS.aloadN X307.here hx rfl (hb hby d5_94) rfl rfl kq) ?_
        show own_Goes _ _ _ _ _ _ _ (T307.setTop (mkF m 95 #[.val (.ref x0), .val (.long x1), .second, .val (.ref x2)] [(.ref x0), (.ref sA)]))
        obtain ⟨T308, X308, e308, st308⟩ := getF X307 hx hZ hown (host := "") (Or.inl (own_at hw 44 rfl)) Via.refl e307 f290 (g := (mkF m 95 #[.val (.ref x0), .val (.long x1), .second, .val (.ref x2)] [(.ref x0), (.ref sA)])) rfl rfl (hb hby d5_95)
        refine own_Goes.step st308 ?_
        show own_Goes _ _ _ _ _ _ _ (T308.setTop (mkF m 98 #[.val (.ref x0), .val (.long x1), .second, .val (.ref x2)] [(.int (Int32.ofNat cnt)), (.ref sA)]))
        refine own_Goes.step (fun tq kq => XS.aloadN X308.here hx rfl (hb hby d5_98) rfl rfl kq) ?_
        show own_Goes _ _ _ _ _ _ _ (T308.setTop (mkF m 99 #[.val (.ref x0), .val (.long x1), .second, .val (.ref x2)] [(.ref x2), (.int (Int32.ofNat cnt)), (.ref sA)]))
        obtain ⟨w309, T309, L309, q309, Y309, st309⟩ := own_virt X308 hx hZ e308 f301 hown (own_at hw 46 rfl) (own_at hw 47 rfl) (own_at hw 49 rfl) (own_at hw 48 rfl) (own_at hw 2 rfl) (own_at hw 50 rfl) (by decide) (own_m6 l Z a0 hw [] x2 z h284 f302 ) (by decide) (W := 2) (by decide) (by decide) (by decide) (g := (mkF m 99 #[.val (.ref x0), .val (.long x1), .second, .val (.ref x2)] [(.ref x2), (.int (Int32.ofNat cnt)), (.ref sA)])) rfl (by rw [hml]; rfl) (argsL := []) (rest := [(.int (Int32.ofNat cnt)), (.ref sA)]) (lenOf pd_6 rfl) rfl (by show 2 * 0 + _ ≤ _; exact Nat.le_of_eq rfl) (hb hby d5_99)
        obtain ⟨e309, X309⟩ := own_clean q309 Y309 rfl rfl
        obtain ⟨rfl, -, -⟩ := q309
        refine own_Goes.step st309 ?_
        show own_Goes _ _ _ _ _ _ _ (T309.setTop (mkF m 102 #[.val (.ref x0), .val (.long x1), .second, .val (.ref x2)] [(.long (own_f6 z)), (.int (Int32.ofNat cnt)), (.ref sA)]))
        obtain ⟨T310, h310, X310, e310, W310, st310⟩ := own_last X309 hx hZ e309 f298 (i := cnt) (own_toI (by omega)) hc16 (g := (mkF m 102 #[.val (.ref x0), .val (.long x1), .second, .val (.ref x2)] [(.long (own_f6 z)), (.int (Int32.ofNat cnt)), (.ref sA)])) rfl rfl (hb hby d5_102)
        refine own_Goes.step st310 ?_
        have f311 := f285.wr W310
        have f312 := f286.other W310 (Or.inl n2)
        have f313 := f287.other W310 (Or.inl n2)
        have f314 := f288.other W310 (Or.inl n2)
        have f315 := f289.other W310 (Or.inl n2)
        have f316 := f290.other W310 (Or.inl n2)
        have f317 := f291.other W310 (Or.inl n2)
        have f318 := f292.other W310 (Or.inl n2)
        have f319 := f293.other W310 (Or.inl n2)
        have f320 := f294.other W310 (Or.inl n2)
        have f321 := f295.other W310 (Or.inl n2)
        have f322 := f296.other W310 (Or.inl n2)
        have f323 := f297.other W310 n5
        have f324 : own_Ar Z h310 sA .long 16 (fun uu => .long ((fun j => if j = cnt then (own_f6 z) else Sz j) uu)) := (f298.set W310).congr fun j _ => by dsimp only; exact (apply_ite Value.long _ _ _).symm
        have f325 := f299.other W310 (Ne.symm n8)
        have f326 := f300.other W310 (Ne.symm n9)
        have f327 := f301.wr W310
        have f328 := f302.other W310 (Or.inl x3n)
        have f329 := f303.other W310 (Or.inl x3n)
        have K330 := K304.wr W310 (Or.inl (List.mem_of_getElem? (i := 2) rfl))
        have N331 := Fr.snoc X310 N305 gw2
        have Z332 : n0 ≤ h310.size := Nat.le_trans Z306 (Keep.of_wr W310).1
        show own_Goes _ _ _ _ _ _ _ (T310.setTop (mkF m 103 #[.val (.ref x0), .val (.long x1), .second, .val (.ref x2)] []))
        refine own_Goes.step (fun tq kq => XS.aloadN X310.here hx rfl (hb hby d5_103) rfl rfl kq) ?_
        show own_Goes _ _ _ _ _ _ _ (T310.setTop (mkF m 104 #[.val (.ref x0), .val (.long x1), .second, .val (.ref x2)] [(.ref x0)]))
        obtain ⟨T333, X333, e333, st333⟩ := getF X310 hx hZ hown (host := "") (Or.inl (own_at hw 32 rfl)) Via.refl e310 f314 (g := (mkF m 104 #[.val (.ref x0), .val (.long x1), .second, .val (.ref x2)] [(.ref x0)])) rfl rfl (hb hby d5_104)
        refine own_Goes.step st333 ?_
        show own_Goes _ _ _ _ _ _ _ (T333.setTop (mkF m 107 #[.val (.ref x0), .val (.long x1), .second, .val (.ref x2)] [(.ref dA)]))
        refine own_Goes.step (fun tq kq => XS.aloadN X333.here hx rfl (hb hby d5_107) rfl rfl kq) ?_
        show own_Goes _ _ _ _ _ _ _ (T333.setTop (mkF m 108 #[.val (.ref x0), .val (.long x1), .second, .val (.ref x2)] [(.ref x0), (.ref dA)]))
        obtain ⟨T334, X334, e334, st334⟩ := getF X333 hx hZ hown (host := "") (Or.inl (own_at hw 44 rfl)) Via.refl e333 f316 (g := (mkF m 108 #[.val (.ref x0), .val (.long x1), .second, .val (.ref x2)] [(.ref x0), (.ref dA)])) rfl rfl (hb hby d5_108)
        refine own_Goes.step st334 ?_
        show own_Goes _ _ _ _ _ _ _ (T334.setTop (mkF m 111 #[.val (.ref x0), .val (.long x1), .second, .val (.ref x2)] [(.int (Int32.ofNat cnt)), (.ref dA)]))
        refine own_Goes.step (fun tq kq => XS.aloadN X334.here hx rfl (hb hby d5_111) rfl rfl kq) ?_
        show own_Goes _ _ _ _ _ _ _ (T334.setTop (mkF m 112 #[.val (.ref x0), .val (.long x1), .second, .val (.ref x2)] [(.ref x2), (.int (Int32.ofNat cnt)), (.ref dA)]))
        obtain ⟨w335, T335, L335, q335, Y335, st335⟩ := own_virt X334 hx hZ e334 f327 hown (own_at hw 57 rfl) (own_at hw 58 rfl) (own_at hw 60 rfl) (own_at hw 59 rfl) (own_at hw 2 rfl) (own_at hw 61 rfl) (by decide) (own_m7 l Z a0 hw [] x2 d h310 f329 ) (by decide) (W := 2) (by decide) (by decide) (by decide) (g := (mkF m 112 #[.val (.ref x0), .val (.long x1), .second, .val (.ref x2)] [(.ref x2), (.int (Int32.ofNat cnt)), (.ref dA)])) rfl (by rw [hml]; rfl) (argsL := []) (rest := [(.int (Int32.ofNat cnt)), (.ref dA)]) (lenOf pd_7 rfl) rfl (by show 2 * 0 + _ ≤ _; exact Nat.le_of_eq rfl) (hb hby d5_112)
        obtain ⟨e335, X335⟩ := own_clean q335 Y335 rfl rfl
        obtain ⟨rfl, -, -⟩ := q335
        refine own_Goes.step st335 ?_
        show own_Goes _ _ _ _ _ _ _ (T335.setTop (mkF m 115 #[.val (.ref x0), .val (.long x1), .second, .val (.ref x2)] [(.int (own_f7 d)), (.int (Int32.ofNat cnt)), (.ref dA)]))
        obtain ⟨T336, h336, X336, e336, W336, st336⟩ := own_zast X335 hx hZ e335 f325 (i := cnt) (own_toI (by omega)) hc16 (g := (mkF m 115 #[.val (.ref x0), .val (.long x1), .second, .val (.ref x2)] [(.int (own_f7 d)), (.int (Int32.ofNat cnt)), (.ref dA)])) rfl rfl (hb hby d5_115)
        refine own_Goes.step st336 ?_
        have f337 := f311.wr W336
        have f338 := f312.other W336 (Or.inl n3)
        have f339 := f313.other W336 (Or.inl n3)
        have f340 := f314.other W336 (Or.inl n3)
        have f341 := f315.other W336 (Or.inl n3)
        have f342 := f316.other W336 (Or.inl n3)
        have f343 := f317.other W336 (Or.inl n3)
        have f344 := f318.other W336 (Or.inl n3)
        have f345 := f319.other W336 (Or.inl n3)
        have f346 := f320.other W336 (Or.inl n3)
        have f347 := f321.other W336 (Or.inl n3)
        have f348 := f322.other W336 (Or.inl n3)
        have f349 := f323.other W336 n6
        have f350 := f324.other W336 n8
        have f351 : own_Ar Z h336 dA .boolean 16 (fun uu => .int ((fun j => if j = cnt then (nar .boolean (own_f7 d)) else D j) uu)) := (f325.set W336).congr fun j _ => by dsimp only; exact (apply_ite Value.int _ _ _).symm
        have f352 := f326.other W336 (Ne.symm n10)
        have f353 := f327.wr W336
        have f354 := f328.other W336 (Or.inl x4n)
        have f355 := f329.other W336 (Or.inl x4n)
        have K356 := K330.wr W336 (Or.inl (List.mem_of_getElem? (i := 3) rfl))
        have N357 := Fr.snoc X336 N331 gw3
        have Z358 : n0 ≤ h336.size := Nat.le_trans Z332 (Keep.of_wr W336).1
        show own_Goes _ _ _ _ _ _ _ (T336.setTop (mkF m 116 #[.val (.ref x0), .val (.long x1), .second, .val (.ref x2)] []))
        refine own_Goes.step (fun tq kq => XS.aloadN X336.here hx rfl (hb hby d5_116) rfl rfl kq) ?_
        show own_Goes _ _ _ _ _ _ _ (T336.setTop (mkF m 117 #[.val (.ref x0), .val (.long x1), .second, .val (.ref x2)] [(.ref x0)]))
        refine own_Goes.step (fun tq kq => XS.dup X336.here hx rfl (hb hby d5_117) rfl rfl kq) ?_
        show own_Goes _ _ _ _ _ _ _ (T336.setTop (mkF m 118 #[.val (.ref x0), .val (.long x1), .second, .val (.ref x2)] [(.ref x0), (.ref x0)]))
        obtain ⟨T359, X359, e359, st359⟩ := getF X336 hx hZ hown (host := "") (Or.inl (own_at hw 44 rfl)) Via.refl e336 f342 (g := (mkF m 118 #[.val (.ref x0), .val (.long x1), .second, .val (.ref x2)] [(.ref x0), (.ref x0)])) rfl rfl (hb hby d5_118)
        refine own_Goes.step st359 ?_
        show own_Goes _ _ _ _ _ _ _ (T359.setTop (mkF m 121 #[.val (.ref x0), .val (.long x1), .second, .val (.ref x2)] [(.int (Int32.ofNat cnt)), (.ref x0)]))
        refine own_Goes.step (fun tq kq => XT.iconstV X359.here hx rfl (1 : Int32) (hb hby d5_121) (by decide) kq) ?_
        show own_Goes _ _ _ _ _ _ _ (T359.setTop (mkF m 122 #[.val (.ref x0), .val (.long x1), .second, .val (.ref x2)] [(.int (1 : Int32)), (.int (Int32.ofNat cnt)), (.ref x0)]))
        refine own_Goes.step (fun tq kq => XS.iadd X359.here hx rfl (hb hby d5_122) rfl kq) ?_
        show own_Goes _ _ _ _ _ _ _ (T359.setTop (mkF m 123 #[.val (.ref x0), .val (.long x1), .second, .val (.ref x2)] [(.int ((Int32.ofNat cnt) + (1 : Int32))), (.ref x0)]))
        obtain ⟨T360, h360, X360, e360, W360, st360⟩ := putF X359 hx hZ hown (host := "") (Or.inl (own_at hw 44 rfl)) Via.refl e359 (v := (.int ((Int32.ofNat cnt) + (1 : Int32)))) f342 f337 (Or.inl (own_at hw 45 rfl)) (own_at hw 20 rfl) (ty := .int) (by decide) rfl rfl (g := (mkF m 123 #[.val (.ref x0), .val (.long x1), .second, .val (.ref x2)] [(.int ((Int32.ofNat cnt) + (1 : Int32))), (.ref x0)])) rfl rfl (hb hby d5_123)
        refine own_Goes.step st360 ?_
        have f361 := f337.wr W360
        have f362 := f338.other W360 (Or.inr (slot_ne (Or.inl (own_at hw 28 rfl)) (Or.inl (own_at hw 45 rfl)) (by decide) (t := (.array .long)) (t' := .int) (by decide) (by decide)))
        have f363 := f339.other W360 (Or.inr (slot_ne (Or.inl (own_at hw 30 rfl)) (Or.inl (own_at hw 45 rfl)) (by decide) (t := (.array .long)) (t' := .int) (by decide) (by decide)))
        have f364 := f340.other W360 (Or.inr (slot_ne (Or.inl (own_at hw 33 rfl)) (Or.inl (own_at hw 45 rfl)) (by decide) (t := (.array .boolean)) (t' := .int) (by decide) (by decide)))
        have f365 := f341.other W360 (Or.inr (slot_ne (Or.inl (own_at hw 36 rfl)) (Or.inl (own_at hw 45 rfl)) (by decide) (t := (.array .int)) (t' := .int) (by decide) (by decide)))
        have f366 := f342.same W360
        have f367 := f343.other W360 (Or.inr (slot_ne (Or.inl (own_at hw 52 rfl)) (Or.inl (own_at hw 45 rfl)) (by decide) (t := .long) (t' := .int) (by decide) (by decide)))
        have f368 := f344.other W360 (Or.inr (slot_ne (Or.inl (own_at hw 54 rfl)) (Or.inl (own_at hw 45 rfl)) (by decide) (t := .boolean) (t' := .int) (by decide) (by decide)))
        have f369 := f345.other W360 (Or.inr (slot_ne (Or.inl (own_at hw 56 rfl)) (Or.inl (own_at hw 45 rfl)) (by decide) (t := .boolean) (t' := .int) (by decide) (by decide)))
        have f370 := f346.other W360 (Or.inr (slot_ne (Or.inl (own_at hw 63 rfl)) (Or.inl (own_at hw 45 rfl)) (by decide) (t := (.array .int)) (t' := .int) (by decide) (by decide)))
        have f371 := f347.other W360 (Or.inr (slot_ne (Or.inl (own_at hw 74 rfl)) (Or.inl (own_at hw 45 rfl)) (by decide) (t := .int) (t' := .int) (by decide) (by decide)))
        have f372 := f348.other W360 (Or.inr (slot_ne (Or.inl (own_at hw 38 rfl)) (Or.inl (own_at hw 45 rfl)) (by decide) (t := .int) (t' := .int) (by decide) (by decide)))
        have f373 := f349.other W360 (Ne.symm n1)
        have f374 := f350.other W360 (Ne.symm n2)
        have f375 := f351.other W360 (Ne.symm n3)
        have f376 := f352.other W360 (Ne.symm n4)
        have f377 := f353.wr W360
        have f378 := f354.other W360 (Or.inl x1n)
        have f379 := f355.other W360 (Or.inl x1n)
        have K380 := K356.wr W360 (Or.inl (List.mem_of_getElem? (i := 0) rfl))
        have N381 := Fr.snoc X360 N357 gw0
        have Z382 : n0 ≤ h360.size := Nat.le_trans Z358 (Keep.of_wr W360).1
        show own_Goes _ _ _ _ _ _ _ (T360.setTop (mkF m 126 #[.val (.ref x0), .val (.long x1), .second, .val (.ref x2)] []))
        refine own_Goes.step (fun tq kq => XS.aloadN X360.here hx rfl (hb hby d5_126) rfl rfl kq) ?_
        show own_Goes _ _ _ _ _ _ _ (T360.setTop (mkF m 127 #[.val (.ref x0), .val (.long x1), .second, .val (.ref x2)] [(.ref x0)]))
        obtain ⟨T383, X383, e383, st383⟩ := getF X360 hx hZ hown (host := "") (Or.inl (own_at hw 62 rfl)) Via.refl e360 f370 (g := (mkF m 127 #[.val (.ref x0), .val (.long x1), .second, .val (.ref x2)] [(.ref x0)])) rfl rfl (hb hby d5_127)
        refine own_Goes.step st383 ?_
        show own_Goes _ _ _ _ _ _ _ (T383.setTop (mkF m 130 #[.val (.ref x0), .val (.long x1), .second, .val (.ref x2)] [.null]))
        refine own_Goes.step (fun tq kq => XS.ifnullYes X383.here hx rfl (pc0 := 130) (pc' := 143) rfl (hb hby d5_130) rfl (by decide) (by decide) kq) ?_
        show own_Goes _ _ _ _ _ _ _ (T383.setTop (mkF m 143 #[.val (.ref x0), .val (.long x1), .second, .val (.ref x2)] []))
        refine own_endV X383 hx Bd.notSynchronized Bd.returns (hb hby d5_143) ?_ (by decide) (by decide)
        show own_F5n Z x0 x1 x2 kA sA dA pA K Sz D cnt fs mx am la ix z d n0 h0 _ T383.heap _
        rw [e383]
        refine ⟨rfl, N381, K380, fs, (mx ||| (own_f5n_1 z fs)), (am ||| (own_f7 d)), fun q => absurd (by rw [q]; rfl) hc5, ?_⟩
        exact ⟨f361, f362, f363, f364, f365, (own_cnt cnt ▸ f366), f367, f368, f369, f370, f371, f372, f373, f374, f375, f376, n1, n2, n3, n4, n5, n6, n7, n8, n9, n10, gw0, gw1, gw2, gw3, (own_orb (by first | exact Or.inl rfl | exact hmx) (by unfold own_f5n_1; split <;> first | exact Or.inl rfl | exact Or.inr rfl)), (own_orb (by first | exact Or.inl rfl | exact ham) (own_d7 hd))⟩
      by_cases hc233 : (own_f6 z) = fs
      · refine own_Goes.step (fun tq kq => XS.ifYes X232.here hx rfl (pc0 := 55) (pc' := 62) rfl (hb hby d5_55) rfl (XT.ll_eq_t hc233) (by decide) (by decide) kq) ?_
        show own_Goes _ _ _ _ _ _ _ (T232.setTop (mkF m 62 #[.val (.ref x0), .val (.long x1), .second, .val (.ref x2)] [(.int mx), (.ref x0)]))
        refine own_Goes.step (fun tq kq => XT.iconstV X232.here hx rfl (0 : Int32) (hb hby d5_62) (by decide) kq) ?_
        show own_Goes _ _ _ _ _ _ _ (T232.setTop (mkF m 63 #[.val (.ref x0), .val (.long x1), .second, .val (.ref x2)] [(.int (0 : Int32)), (.int mx), (.ref x0)]))
        rw [show (own_f5n_1 z fs) = (0 : Int32) from by simp only [own_f5n_1, if_pos hc233]] at J385
        exact J385
      · refine own_Goes.step (fun tq kq => XS.ifNo X232.here hx rfl (hb hby d5_55) rfl (XT.ll_eq_f hc233) kq) ?_
        show own_Goes _ _ _ _ _ _ _ (T232.setTop (mkF m 58 #[.val (.ref x0), .val (.long x1), .second, .val (.ref x2)] [(.int mx), (.ref x0)]))
        refine own_Goes.step (fun tq kq => XT.iconstV X232.here hx rfl (1 : Int32) (hb hby d5_58) (by decide) kq) ?_
        show own_Goes _ _ _ _ _ _ _ (T232.setTop (mkF m 59 #[.val (.ref x0), .val (.long x1), .second, .val (.ref x2)] [(.int (1 : Int32)), (.int mx), (.ref x0)]))
        refine own_Goes.step (fun tq kq => XS.goto X232.here hx rfl (pc0 := 59) (pc' := 63) rfl (hb hby d5_59) (by decide) (by decide) kq) ?_
        show own_Goes _ _ _ _ _ _ _ (T232.setTop (mkF m 63 #[.val (.ref x0), .val (.long x1), .second, .val (.ref x2)] [(.int (1 : Int32)), (.int mx), (.ref x0)]))
        rw [show (own_f5n_1 z fs) = (1 : Int32) from by simp only [own_f5n_1, if_neg hc233]] at J385
        exact J385
  obtain ⟨t2, o2, q1, q2, q3, q4⟩ := hgo
  exact ⟨t2, o2, castTop (ef_5 m x0 x1 x2) q1, q2, q3, q4⟩
def own_f5s_1 (z fs : Int64) : Int32 := (if (own_f6 z) = fs then (0 : Int32) else (1 : Int32))
def own_F5s (Z : State) (x0 : Addr) (x1 : Int64) (x2 : Addr) (kA sA dA pA : Addr) (K Sz : Nat → Int64) (D : Nat → Int32) (cnt : Nat) (fs : Int64) (mx am la : Int32) (ix : Int32) (z : Int64) (d : Int32) (iA : Addr) (S : Nat → Int32) (tt : Nat) (n0 : Nat) (h0 : Heap) (v : Option Value) (h : Heap) (L : List Loc) : Prop := v = none ∧ Fr n0 L ∧ Keep h0 h [x0, kA, sA, dA, iA] ∧ ∃ (fs1 : Int64) (mx1 am1 : Int32), (cnt = 0 → fs1 = z ∧ mx1 = 0 ∧ am1 = d) ∧ (if S tt = (0 : Int32) then own_W Z h n0 x0 kA sA dA pA (.ref iA) (own_setJ K cnt x1) (own_setJ Sz cnt z) (own_set D cnt (nar .boolean (own_f7 d))) (cnt + 1) fs1 mx1 am1 (ix + (1 : Int32)) (Int32.ofNat tt) ∧ own_I Z h n0 x0 kA sA dA pA iA (own_set S tt (Int32.ofNat (cnt + 1))) else own_W Z h n0 x0 kA sA dA pA (.ref iA) (own_setJ K cnt x1) (own_setJ Sz cnt z) (own_set D cnt (nar .boolean (own_f7 d))) (cnt + 1) fs1 mx1 am1 ix (-1 : Int32) ∧ own_I Z h n0 x0 kA sA dA pA iA S)
set_option maxRecDepth 65536 in
set_option maxHeartbeats 40000000 in
theorem own_m5s (l : Launch) (Z : State) (a0 : Array Value) (hw : ∀ d ∈ tables_1, d.before a0 Z = true) (ws : List Jvm.Cond) (x0 : Addr) (x1 : Int64) (x2 : Addr) (kA sA dA pA : Addr) (K Sz : Nat → Int64) (D : Nat → Int32) (cnt : Nat) (fs : Int64) (mx am la : Int32) (ix : Int32) (z : Int64) (d : Int32) (iA : Addr) (S : Nat → Int32) (tt : Nat) (n0 : Nat) (h0 : Heap)  (B : own_W Z h0 n0 x0 kA sA dA pA (.ref iA) K Sz D cnt fs mx am ix la) (I : own_I Z h0 n0 x0 kA sA dA pA iA S) (EE : Exa Z h0 x2 "com/example/strati/strati/sim/Entry") (PE0 : Fld Z h0 x2 "com/example/strati/strati/sim/Entry" "size" "J" (.long z)) (PE1 : Fld Z h0 x2 "com/example/strati/strati/sim/Entry" "delete" "Z" (.int d)) (hd : d = 0 ∨ d = 1) (x1n : x2 ≠ x0) (x2n : x2 ≠ kA) (x3n : x2 ≠ sA) (x4n : x2 ≠ dA) (x6n : x2 ≠ pA) (hc16 : cnt < 16) (x5n : x2 ≠ iA) (hS : own_OK S) (hm : own_sl (own_setJ K cnt x1) S x1 16 (own_h x1) = some tt) (htt : tt < 16) (hix : ¬ (16 : Int32) < (2 : Int32) * (ix + (1 : Int32))) :
    MetFree l (⟨"com/example/strati/strati/sim/WriteBuffer", "put", "(JLcom/example/strati/strati/sim/Entry;)V"⟩ : MethodName) (head1 (Jvm.Cond.code (⟨"com/example/strati/strati/sim/WriteBuffer", "put", "(JLcom/example/strati/strati/sim/Entry;)V"⟩ : MethodName) prog_67_method_2_code 4 none :: ws) ({ frames := 3, cells := 0, slots := 0, locals := 46 } : Room)) (fun a U => a = #[(.ref x0), (.long x1), (.ref x2)] ∧ Z.Warmed39 U.vm ∧ U.heap = h0) (fun _ _ _ _ _ => True) (fun _ U o U' => ∃ v L, o = .returned v ∧ own_F5s Z x0 x1 x2 kA sA dA pA K Sz D cnt fs mx am la ix z d iA S tt n0 h0 v U'.heap L ∧ FrameEnd U o U' L ({ frames := 3, cells := 0, slots := 0, locals := 46 } : Room).cells ({ frames := 3, cells := 0, slots := 0, locals := 46 } : Room).slots) := by
  refine MetFree.of_bodySF (plainFor_of_name pn_5) hisR ?_
  intro p e s m args below meth c s₁ Bd hml0 hP hK
  obtain ⟨rfl, hZ, hh⟩ := hP
  have hx := Bd.exec
  have hby := Bd.bytes
  have hml : c.maxLocals = 4 := hml0
  have hown : s.vm.findClass "com/example/strati/strati/sim/WriteBuffer" = some m.cls := findClass_of_methodNamed Bd.named
  have hnm := (name_of_methodNamed Bd.named Bd.method).1
  have X0 : Stand p l e ({ frames := 3, cells := 0, slots := 0, locals := 46 } : Room) s m #[(.ref x0), (.long x1), (.ref x2)] below meth c s₁ [] 0 0 := Stand.of_body Bd
  have e0 : s₁.heap = h0 := by rw [← hh, Bd.state]; rfl
  obtain ⟨E0, P0, P1, P2, P3, P4, P5, P6, P7, P8, P9, P10, R0, R1, R2, R3, n1, n2, n3, n4, n5, n6, n7, n8, n9, n10, gw0, gw1, gw2, gw3, hmx, ham⟩ := B
  obtain ⟨RI, m1, m2, m3, m4, m5, gi⟩ := I
  have Z0 : n0 ≤ h0.size := Nat.le_trans gw0 (Nat.le_of_lt E0.lt)
  have N0 := Fr.nil n0
  have K0 : Keep h0 h0 [x0, kA, sA, dA, iA] := Keep.refl h0 [x0, kA, sA, dA, iA]
  have hgo : own_Goes p e below s (own_F5s Z x0 x1 x2 kA sA dA pA K Sz D cnt fs mx am la ix z d iA S tt n0 h0) 0 0 (s₁.setTop (mkF m 0 #[.val (.ref x0), .val (.long x1), .second, .val (.ref x2)] [])) := by
    refine own_Goes.step (fun tq kq => XS.aloadN X0.here hx rfl (hb hby d5_0) rfl rfl kq) ?_
    show own_Goes _ _ _ _ _ _ _ (s₁.setTop (mkF m 1 #[.val (.ref x0), .val (.long x1), .second, .val (.ref x2)] [(.ref x0)]))
    obtain ⟨T1, X1, e1, st1⟩ := getF X0 hx hZ hown (host := "") (Or.inl (own_at hw 44 rfl)) Via.refl e0 P4 (g := (mkF m 1 #[.val (.ref x0), .val (.long x1), .second, .val (.ref x2)] [(.ref x0)])) rfl rfl (hb hby d5_1)
    refine own_Goes.step st1 ?_
    show own_Goes _ _ _ _ _ _ _ (T1.setTop (mkF m 4 #[.val (.ref x0), .val (.long x1), .second, .val (.ref x2)] [(.int (Int32.ofNat cnt))]))
    refine own_Goes.step (fun tq kq => XS.aloadN X1.here hx rfl (hb hby d5_4) rfl rfl kq) ?_
    show own_Goes _ _ _ _ _ _ _ (T1.setTop (mkF m 5 #[.val (.ref x0), .val (.long x1), .second, .val (.ref x2)] [(.ref x0), (.int (Int32.ofNat cnt))]))
    obtain ⟨T2, X2, e2, st2⟩ := getF X1 hx hZ hown (host := "") (Or.inl (own_at hw 27 rfl)) Via.refl e1 P0 (g := (mkF m 5 #[.val (.ref x0), .val (.long x1), .second, .val (.ref x2)] [(.ref x0), (.int (Int32.ofNat cnt))])) rfl rfl (hb hby d5_5)
    refine own_Goes.step st2 ?_
    show own_Goes _ _ _ _ _ _ _ (T2.setTop (mkF m 8 #[.val (.ref x0), .val (.long x1), .second, .val (.ref x2)] [(.ref kA), (.int (Int32.ofNat cnt))]))
    refine own_Goes.step (own_alen X2 hx hZ e2 R0 (z := (16 : Int32)) (by decide) (g := (mkF m 8 #[.val (.ref x0), .val (.long x1), .second, .val (.ref x2)] [(.ref kA), (.int (Int32.ofNat cnt))])) rfl rfl (hb hby d5_8)) ?_
    show own_Goes _ _ _ _ _ _ _ (T2.setTop (mkF m 9 #[.val (.ref x0), .val (.long x1), .second, .val (.ref x2)] [(.int (16 : Int32)), (.int (Int32.ofNat cnt))]))
    refine own_Goes.step (fun tq kq => XS.icmpYes X2.here hx rfl (pc0 := 9) (pc' := 16) rfl (hb hby d5_9) rfl (XT.ii_ne_t (own_c16 hc16)) (by decide) (by decide) kq) ?_
    show own_Goes _ _ _ _ _ _ _ (T2.setTop (mkF m 16 #[.val (.ref x0), .val (.long x1), .second, .val (.ref x2)] []))
    refine own_Goes.step (fun tq kq => XS.aloadN X2.here hx rfl (hb hby d5_16) rfl rfl kq) ?_
    show own_Goes _ _ _ _ _ _ _ (T2.setTop (mkF m 17 #[.val (.ref x0), .val (.long x1), .second, .val (.ref x2)] [(.ref x0)]))
    obtain ⟨T4, X4, e4, st4⟩ := getF X2 hx hZ hown (host := "") (Or.inl (own_at hw 44 rfl)) Via.refl e2 P4 (g := (mkF m 17 #[.val (.ref x0), .val (.long x1), .second, .val (.ref x2)] [(.ref x0)])) rfl rfl (hb hby d5_17)
    refine own_Goes.step st4 ?_
    show own_Goes _ _ _ _ _ _ _ (T4.setTop (mkF m 20 #[.val (.ref x0), .val (.long x1), .second, .val (.ref x2)] [(.int (Int32.ofNat cnt))]))
    by_cases hc5 : (Int32.ofNat cnt) = (0 : Int32)
    · refine own_Goes.step (fun tq kq => XS.ifNo X4.here hx rfl (hb hby d5_20) rfl (XT.i0_ne_f hc5) kq) ?_
      show own_Goes _ _ _ _ _ _ _ (T4.setTop (mkF m 23 #[.val (.ref x0), .val (.long x1), .second, .val (.ref x2)] []))
      refine own_Goes.step (fun tq kq => XS.aloadN X4.here hx rfl (hb hby d5_23) rfl rfl kq) ?_
      show own_Goes _ _ _ _ _ _ _ (T4.setTop (mkF m 24 #[.val (.ref x0), .val (.long x1), .second, .val (.ref x2)] [(.ref x0)]))
      refine own_Goes.step (fun tq kq => XS.aloadN X4.here hx rfl (hb hby d5_24) rfl rfl kq) ?_
      show own_Goes _ _ _ _ _ _ _ (T4.setTop (mkF m 25 #[.val (.ref x0), .val (.long x1), .second, .val (.ref x2)] [(.ref x2), (.ref x0)]))
      obtain ⟨w6, T6, L6, q6, Y6, st6⟩ := own_virt X4 hx hZ e4 EE hown (own_at hw 46 rfl) (own_at hw 47 rfl) (own_at hw 49 rfl) (own_at hw 48 rfl) (own_at hw 2 rfl) (own_at hw 50 rfl) (by decide) (own_m6 l Z a0 hw [] x2 z h0 PE0 ) (by decide) (W := 1) (by decide) (by decide) (by decide) (g := (mkF m 25 #[.val (.ref x0), .val (.long x1), .second, .val (.ref x2)] [(.ref x2), (.ref x0)])) rfl (by rw [hml]; rfl) (argsL := []) (rest := [(.ref x0)]) (lenOf pd_6 rfl) rfl (by show 2 * 0 + _ ≤ _; exact Nat.le_of_eq rfl) (hb hby d5_25)
      obtain ⟨e6, X6⟩ := own_clean q6 Y6 rfl rfl
      obtain ⟨rfl, -, -⟩ := q6
      refine own_Goes.step st6 ?_
      show own_Goes _ _ _ _ _ _ _ (T6.setTop (mkF m 28 #[.val (.ref x0), .val (.long x1), .second, .val (.ref x2)] [(.long (own_f6 z)), (.ref x0)]))
      obtain ⟨T7, h7, X7, e7, W7, st7⟩ := putF X6 hx hZ hown (host := "") (Or.inl (own_at hw 51 rfl)) Via.refl e6 (v := (.long (own_f6 z))) P5 E0 (Or.inl (own_at hw 52 rfl)) (own_at hw 20 rfl) (ty := .long) (by decide) rfl rfl (g := (mkF m 28 #[.val (.ref x0), .val (.long x1), .second, .val (.ref x2)] [(.long (own_f6 z)), (.ref x0)])) rfl rfl (hb hby d5_28)
      refine own_Goes.step st7 ?_
      have f8 := E0.wr W7
      have f9 := P0.other W7 (Or.inr (slot_ne (Or.inl (own_at hw 28 rfl)) (Or.inl (own_at hw 52 rfl)) (by decide) (t := (.array .long)) (t' := .long) (by decide) (by decide)))
      have f10 := P1.other W7 (Or.inr (slot_ne (Or.inl (own_at hw 30 rfl)) (Or.inl (own_at hw 52 rfl)) (by decide) (t := (.array .long)) (t' := .long) (by decide) (by decide)))
      have f11 := P2.other W7 (Or.inr (slot_ne (Or.inl (own_at hw 33 rfl)) (Or.inl (own_at hw 52 rfl)) (by decide) (t := (.array .boolean)) (t' := .long) (by decide) (by decide)))
      have f12 := P3.other W7 (Or.inr (slot_ne (Or.inl (own_at hw 36 rfl)) (Or.inl (own_at hw 52 rfl)) (by decide) (t := (.array .int)) (t' := .long) (by decide) (by decide)))
      have f13 := P4.other W7 (Or.inr (slot_ne (Or.inl (own_at hw 45 rfl)) (Or.inl (own_at hw 52 rfl)) (by decide) (t := .int) (t' := .long) (by decide) (by decide)))
      have f14 := P5.same W7
      have f15 := P6.other W7 (Or.inr (slot_ne (Or.inl (own_at hw 54 rfl)) (Or.inl (own_at hw 52 rfl)) (by decide) (t := .boolean) (t' := .long) (by decide) (by decide)))
      have f16 := P7.other W7 (Or.inr (slot_ne (Or.inl (own_at hw 56 rfl)) (Or.inl (own_at hw 52 rfl)) (by decide) (t := .boolean) (t' := .long) (by decide) (by decide)))
      have f17 := P8.other W7 (Or.inr (slot_ne (Or.inl (own_at hw 63 rfl)) (Or.inl (own_at hw 52 rfl)) (by decide) (t := (.array .int)) (t' := .long) (by decide) (by decide)))
      have f18 := P9.other W7 (Or.inr (slot_ne (Or.inl (own_at hw 74 rfl)) (Or.inl (own_at hw 52 rfl)) (by decide) (t := .int) (t' := .long) (by decide) (by decide)))
      have f19 := P10.other W7 (Or.inr (slot_ne (Or.inl (own_at hw 38 rfl)) (Or.inl (own_at hw 52 rfl)) (by decide) (t := .int) (t' := .long) (by decide) (by decide)))
      have f20 := R0.other W7 (Ne.symm n1)
      have f21 := R1.other W7 (Ne.symm n2)
      have f22 := R2.other W7 (Ne.symm n3)
      have f23 := R3.other W7 (Ne.symm n4)
      have f24 := RI.other W7 (Ne.symm m1)
      have f25 := EE.wr W7
      have f26 := PE0.other W7 (Or.inl x1n)
      have f27 := PE1.other W7 (Or.inl x1n)
      have K28 := K0.wr W7 (Or.inl (List.mem_of_getElem? (i := 0) rfl))
      have N29 := Fr.snoc X7 N0 gw0
      have Z30 : n0 ≤ h7.size := Nat.le_trans Z0 (Keep.of_wr W7).1
      show own_Goes _ _ _ _ _ _ _ (T7.setTop (mkF m 31 #[.val (.ref x0), .val (.long x1), .second, .val (.ref x2)] []))
      refine own_Goes.step (fun tq kq => XS.aloadN X7.here hx rfl (hb hby d5_31) rfl rfl kq) ?_
      show own_Goes _ _ _ _ _ _ _ (T7.setTop (mkF m 32 #[.val (.ref x0), .val (.long x1), .second, .val (.ref x2)] [(.ref x0)]))
      refine own_Goes.step (fun tq kq => XT.iconstV X7.here hx rfl (0 : Int32) (hb hby d5_32) (by decide) kq) ?_
      show own_Goes _ _ _ _ _ _ _ (T7.setTop (mkF m 33 #[.val (.ref x0), .val (.long x1), .second, .val (.ref x2)] [(.int (0 : Int32)), (.ref x0)]))
      obtain ⟨T31, h31, X31, e31, W31, st31⟩ := putF X7 hx hZ hown (host := "") (Or.inl (own_at hw 53 rfl)) Via.refl e7 (v := (.int (0 : Int32))) f15 f8 (Or.inl (own_at hw 54 rfl)) (own_at hw 20 rfl) (ty := .boolean) (by decide) rfl rfl (g := (mkF m 33 #[.val (.ref x0), .val (.long x1), .second, .val (.ref x2)] [(.int (0 : Int32)), (.ref x0)])) rfl rfl (hb hby d5_33)
      refine own_Goes.step st31 ?_
      have f32 := f8.wr W31
      have f33 := f9.other W31 (Or.inr (slot_ne (Or.inl (own_at hw 28 rfl)) (Or.inl (own_at hw 54 rfl)) (by decide) (t := (.array .long)) (t' := .boolean) (by decide) (by decide)))
      have f34 := f10.other W31 (Or.inr (slot_ne (Or.inl (own_at hw 30 rfl)) (Or.inl (own_at hw 54 rfl)) (by decide) (t := (.array .long)) (t' := .boolean) (by decide) (by decide)))
      have f35 := f11.other W31 (Or.inr (slot_ne (Or.inl (own_at hw 33 rfl)) (Or.inl (own_at hw 54 rfl)) (by decide) (t := (.array .boolean)) (t' := .boolean) (by decide) (by decide)))
      have f36 := f12.other W31 (Or.inr (slot_ne (Or.inl (own_at hw 36 rfl)) (Or.inl (own_at hw 54 rfl)) (by decide) (t := (.array .int)) (t' := .boolean) (by decide) (by decide)))
      have f37 := f13.other W31 (Or.inr (slot_ne (Or.inl (own_at hw 45 rfl)) (Or.inl (own_at hw 54 rfl)) (by decide) (t := .int) (t' := .boolean) (by decide) (by decide)))
      have f38 := f14.other W31 (Or.inr (slot_ne (Or.inl (own_at hw 52 rfl)) (Or.inl (own_at hw 54 rfl)) (by decide) (t := .long) (t' := .boolean) (by decide) (by decide)))
      have f39 := f15.same W31
      have f40 := f16.other W31 (Or.inr (slot_ne (Or.inl (own_at hw 56 rfl)) (Or.inl (own_at hw 54 rfl)) (by decide) (t := .boolean) (t' := .boolean) (by decide) (by decide)))
      have f41 := f17.other W31 (Or.inr (slot_ne (Or.inl (own_at hw 63 rfl)) (Or.inl (own_at hw 54 rfl)) (by decide) (t := (.array .int)) (t' := .boolean) (by decide) (by decide)))
      have f42 := f18.other W31 (Or.inr (slot_ne (Or.inl (own_at hw 74 rfl)) (Or.inl (own_at hw 54 rfl)) (by decide) (t := .int) (t' := .boolean) (by decide) (by decide)))
      have f43 := f19.other W31 (Or.inr (slot_ne (Or.inl (own_at hw 38 rfl)) (Or.inl (own_at hw 54 rfl)) (by decide) (t := .int) (t' := .boolean) (by decide) (by decide)))
      have f44 := f20.other W31 (Ne.symm n1)
      have f45 := f21.other W31 (Ne.symm n2)
      have f46 := f22.other W31 (Ne.symm n3)
      have f47 := f23.other W31 (Ne.symm n4)
      have f48 := f24.other W31 (Ne.symm m1)
      have f49 := f25.wr W31
      have f50 := f26.other W31 (Or.inl x1n)
      have f51 := f27.other W31 (Or.inl x1n)
      have K52 := K28.wr W31 (Or.inl (List.mem_of_getElem? (i := 0) rfl))
      have N53 := Fr.snoc X31 N29 gw0
      have Z54 : n0 ≤ h31.size := Nat.le_trans Z30 (Keep.of_wr W31).1
      show own_Goes _ _ _ _ _ _ _ (T31.setTop (mkF m 36 #[.val (.ref x0), .val (.long x1), .second, .val (.ref x2)] []))
      refine own_Goes.step (fun tq kq => XS.aloadN X31.here hx rfl (hb hby d5_36) rfl rfl kq) ?_
      show own_Goes _ _ _ _ _ _ _ (T31.setTop (mkF m 37 #[.val (.ref x0), .val (.long x1), .second, .val (.ref x2)] [(.ref x0)]))
      refine own_Goes.step (fun tq kq => XT.iconstV X31.here hx rfl (0 : Int32) (hb hby d5_37) (by decide) kq) ?_
      show own_Goes _ _ _ _ _ _ _ (T31.setTop (mkF m 38 #[.val (.ref x0), .val (.long x1), .second, .val (.ref x2)] [(.int (0 : Int32)), (.ref x0)]))
      obtain ⟨T55, h55, X55, e55, W55, st55⟩ := putF X31 hx hZ hown (host := "") (Or.inl (own_at hw 55 rfl)) Via.refl e31 (v := (.int (0 : Int32))) f40 f32 (Or.inl (own_at hw 56 rfl)) (own_at hw 20 rfl) (ty := .boolean) (by decide) rfl rfl (g := (mkF m 38 #[.val (.ref x0), .val (.long x1), .second, .val (.ref x2)] [(.int (0 : Int32)), (.ref x0)])) rfl rfl (hb hby d5_38)
      refine own_Goes.step st55 ?_
      have f56 := f32.wr W55
      have f57 := f33.other W55 (Or.inr (slot_ne (Or.inl (own_at hw 28 rfl)) (Or.inl (own_at hw 56 rfl)) (by decide) (t := (.array .long)) (t' := .boolean) (by decide) (by decide)))
      have f58 := f34.other W55 (Or.inr (slot_ne (Or.inl (own_at hw 30 rfl)) (Or.inl (own_at hw 56 rfl)) (by decide) (t := (.array .long)) (t' := .boolean) (by decide) (by decide)))
      have f59 := f35.other W55 (Or.inr (slot_ne (Or.inl (own_at hw 33 rfl)) (Or.inl (own_at hw 56 rfl)) (by decide) (t := (.array .boolean)) (t' := .boolean) (by decide) (by decide)))
      have f60 := f36.other W55 (Or.inr (slot_ne (Or.inl (own_at hw 36 rfl)) (Or.inl (own_at hw 56 rfl)) (by decide) (t := (.array .int)) (t' := .boolean) (by decide) (by decide)))
      have f61 := f37.other W55 (Or.inr (slot_ne (Or.inl (own_at hw 45 rfl)) (Or.inl (own_at hw 56 rfl)) (by decide) (t := .int) (t' := .boolean) (by decide) (by decide)))
      have f62 := f38.other W55 (Or.inr (slot_ne (Or.inl (own_at hw 52 rfl)) (Or.inl (own_at hw 56 rfl)) (by decide) (t := .long) (t' := .boolean) (by decide) (by decide)))
      have f63 := f39.other W55 (Or.inr (slot_ne (Or.inl (own_at hw 54 rfl)) (Or.inl (own_at hw 56 rfl)) (by decide) (t := .boolean) (t' := .boolean) (by decide) (by decide)))
      have f64 := f40.same W55
      have f65 := f41.other W55 (Or.inr (slot_ne (Or.inl (own_at hw 63 rfl)) (Or.inl (own_at hw 56 rfl)) (by decide) (t := (.array .int)) (t' := .boolean) (by decide) (by decide)))
      have f66 := f42.other W55 (Or.inr (slot_ne (Or.inl (own_at hw 74 rfl)) (Or.inl (own_at hw 56 rfl)) (by decide) (t := .int) (t' := .boolean) (by decide) (by decide)))
      have f67 := f43.other W55 (Or.inr (slot_ne (Or.inl (own_at hw 38 rfl)) (Or.inl (own_at hw 56 rfl)) (by decide) (t := .int) (t' := .boolean) (by decide) (by decide)))
      have f68 := f44.other W55 (Ne.symm n1)
      have f69 := f45.other W55 (Ne.symm n2)
      have f70 := f46.other W55 (Ne.symm n3)
      have f71 := f47.other W55 (Ne.symm n4)
      have f72 := f48.other W55 (Ne.symm m1)
      have f73 := f49.wr W55
      have f74 := f50.other W55 (Or.inl x1n)
      have f75 := f51.other W55 (Or.inl x1n)
      have K76 := K52.wr W55 (Or.inl (List.mem_of_getElem? (i := 0) rfl))
      have N77 := Fr.snoc X55 N53 gw0
      have Z78 : n0 ≤ h55.size := Nat.le_trans Z54 (Keep.of_wr W55).1
      show own_Goes _ _ _ _ _ _ _ (T55.setTop (mkF m 41 #[.val (.ref x0), .val (.long x1), .second, .val (.ref x2)] []))
      refine own_Goes.step (fun tq kq => XS.aloadN X55.here hx rfl (hb hby d5_41) rfl rfl kq) ?_
      show own_Goes _ _ _ _ _ _ _ (T55.setTop (mkF m 42 #[.val (.ref x0), .val (.long x1), .second, .val (.ref x2)] [(.ref x0)]))
      refine own_Goes.step (fun tq kq => XS.dup X55.here hx rfl (hb hby d5_42) rfl rfl kq) ?_
      show own_Goes _ _ _ _ _ _ _ (T55.setTop (mkF m 43 #[.val (.ref x0), .val (.long x1), .second, .val (.ref x2)] [(.ref x0), (.ref x0)]))
      obtain ⟨T79, X79, e79, st79⟩ := getF X55 hx hZ hown (host := "") (Or.inl (own_at hw 53 rfl)) Via.refl e55 f63 (g := (mkF m 43 #[.val (.ref x0), .val (.long x1), .second, .val (.ref x2)] [(.ref x0), (.ref x0)])) rfl rfl (hb hby d5_43)
      refine own_Goes.step st79 ?_
      show own_Goes _ _ _ _ _ _ _ (T79.setTop (mkF m 46 #[.val (.ref x0), .val (.long x1), .second, .val (.ref x2)] [(.int (0 : Int32)), (.ref x0)]))
      refine own_Goes.step (fun tq kq => XS.aloadN X79.here hx rfl (hb hby d5_46) rfl rfl kq) ?_
      show own_Goes _ _ _ _ _ _ _ (T79.setTop (mkF m 47 #[.val (.ref x0), .val (.long x1), .second, .val (.ref x2)] [(.ref x2), (.int (0 : Int32)), (.ref x0)]))
      obtain ⟨w80, T80, L80, q80, Y80, st80⟩ := own_virt X79 hx hZ e79 f73 hown (own_at hw 46 rfl) (own_at hw 47 rfl) (own_at hw 49 rfl) (own_at hw 48 rfl) (own_at hw 2 rfl) (own_at hw 50 rfl) (by decide) (own_m6 l Z a0 hw [] x2 z h55 f74 ) (by decide) (W := 2) (by decide) (by decide) (by decide) (g := (mkF m 47 #[.val (.ref x0), .val (.long x1), .second, .val (.ref x2)] [(.ref x2), (.int (0 : Int32)), (.ref x0)])) rfl (by rw [hml]; rfl) (argsL := []) (rest := [(.int (0 : Int32)), (.ref x0)]) (lenOf pd_6 rfl) rfl (by show 2 * 0 + _ ≤ _; exact Nat.le_of_eq rfl) (hb hby d5_47)
      obtain ⟨e80, X80⟩ := own_clean q80 Y80 rfl rfl
      obtain ⟨rfl, -, -⟩ := q80
      refine own_Goes.step st80 ?_
      show own_Goes _ _ _ _ _ _ _ (T80.setTop (mkF m 50 #[.val (.ref x0), .val (.long x1), .second, .val (.ref x2)] [(.long (own_f6 z)), (.int (0 : Int32)), (.ref x0)]))
      refine own_Goes.step (fun tq kq => XS.aloadN X80.here hx rfl (hb hby d5_50) rfl rfl kq) ?_
      show own_Goes _ _ _ _ _ _ _ (T80.setTop (mkF m 51 #[.val (.ref x0), .val (.long x1), .second, .val (.ref x2)] [(.ref x0), (.long (own_f6 z)), (.int (0 : Int32)), (.ref x0)]))
      obtain ⟨T81, X81, e81, st81⟩ := getF X80 hx hZ hown (host := "") (Or.inl (own_at hw 51 rfl)) Via.refl e80 f62 (g := (mkF m 51 #[.val (.ref x0), .val (.long x1), .second, .val (.ref x2)] [(.ref x0), (.long (own_f6 z)), (.int (0 : Int32)), (.ref x0)])) rfl rfl (hb hby d5_51)
      refine own_Goes.step st81 ?_
      show own_Goes _ _ _ _ _ _ _ (T81.setTop (mkF m 54 #[.val (.ref x0), .val (.long x1), .second, .val (.ref x2)] [(.long (own_f6 z)), (.long (own_f6 z)), (.int (0 : Int32)), (.ref x0)]))
      refine own_Goes.step (fun tq kq => XT.lcmp X81.here hx rfl (hb hby d5_54) rfl kq) ?_
      show own_Goes _ _ _ _ _ _ _ (T81.setTop (mkF m 55 #[.val (.ref x0), .val (.long x1), .second, .val (.ref x2)] [(.int (XT.cmpL (own_f6 z) (own_f6 z))), (.int (0 : Int32)), (.ref x0)]))
      refine own_Goes.step (fun tq kq => XS.ifYes X81.here hx rfl (pc0 := 55) (pc' := 62) rfl (hb hby d5_55) rfl (XT.ll_eq_t (rfl)) (by decide) (by decide) kq) ?_
      show own_Goes _ _ _ _ _ _ _ (T81.setTop (mkF m 62 #[.val (.ref x0), .val (.long x1), .second, .val (.ref x2)] [(.int (0 : Int32)), (.ref x0)]))
      refine own_Goes.step (fun tq kq => XT.iconstV X81.here hx rfl (0 : Int32) (hb hby d5_62) (by decide) kq) ?_
      show own_Goes _ _ _ _ _ _ _ (T81.setTop (mkF m 63 #[.val (.ref x0), .val (.long x1), .second, .val (.ref x2)] [(.int (0 : Int32)), (.int (0 : Int32)), (.ref x0)]))
      refine own_Goes.step (fun tq kq => XT.ior X81.here hx rfl (hb hby d5_63) rfl kq) ?_
      show own_Goes _ _ _ _ _ _ _ (T81.setTop (mkF m 64 #[.val (.ref x0), .val (.long x1), .second, .val (.ref x2)] [(.int ((0 : Int32) ||| (0 : Int32))), (.ref x0)]))
      obtain ⟨T82, h82, X82, e82, W82, st82⟩ := putF X81 hx hZ hown (host := "") (Or.inl (own_at hw 53 rfl)) Via.refl e81 (v := (.int ((0 : Int32) ||| (0 : Int32)))) f63 f56 (Or.inl (own_at hw 54 rfl)) (own_at hw 20 rfl) (ty := .boolean) (by decide) rfl rfl (g := (mkF m 64 #[.val (.ref x0), .val (.long x1), .second, .val (.ref x2)] [(.int ((0 : Int32) ||| (0 : Int32))), (.ref x0)])) rfl rfl (hb hby d5_64)
      refine own_Goes.step st82 ?_
      have f83 := f56.wr W82
      have f84 := f57.other W82 (Or.inr (slot_ne (Or.inl (own_at hw 28 rfl)) (Or.inl (own_at hw 54 rfl)) (by decide) (t := (.array .long)) (t' := .boolean) (by decide) (by decide)))
      have f85 := f58.other W82 (Or.inr (slot_ne (Or.inl (own_at hw 30 rfl)) (Or.inl (own_at hw 54 rfl)) (by decide) (t := (.array .long)) (t' := .boolean) (by decide) (by decide)))
      have f86 := f59.other W82 (Or.inr (slot_ne (Or.inl (own_at hw 33 rfl)) (Or.inl (own_at hw 54 rfl)) (by decide) (t := (.array .boolean)) (t' := .boolean) (by decide) (by decide)))
      have f87 := f60.other W82 (Or.inr (slot_ne (Or.inl (own_at hw 36 rfl)) (Or.inl (own_at hw 54 rfl)) (by decide) (t := (.array .int)) (t' := .boolean) (by decide) (by decide)))
      have f88 := f61.other W82 (Or.inr (slot_ne (Or.inl (own_at hw 45 rfl)) (Or.inl (own_at hw 54 rfl)) (by decide) (t := .int) (t' := .boolean) (by decide) (by decide)))
      have f89 := f62.other W82 (Or.inr (slot_ne (Or.inl (own_at hw 52 rfl)) (Or.inl (own_at hw 54 rfl)) (by decide) (t := .long) (t' := .boolean) (by decide) (by decide)))
      have f90 := f63.same W82
      have f91 := f64.other W82 (Or.inr (slot_ne (Or.inl (own_at hw 56 rfl)) (Or.inl (own_at hw 54 rfl)) (by decide) (t := .boolean) (t' := .boolean) (by decide) (by decide)))
      have f92 := f65.other W82 (Or.inr (slot_ne (Or.inl (own_at hw 63 rfl)) (Or.inl (own_at hw 54 rfl)) (by decide) (t := (.array .int)) (t' := .boolean) (by decide) (by decide)))
      have f93 := f66.other W82 (Or.inr (slot_ne (Or.inl (own_at hw 74 rfl)) (Or.inl (own_at hw 54 rfl)) (by decide) (t := .int) (t' := .boolean) (by decide) (by decide)))
      have f94 := f67.other W82 (Or.inr (slot_ne (Or.inl (own_at hw 38 rfl)) (Or.inl (own_at hw 54 rfl)) (by decide) (t := .int) (t' := .boolean) (by decide) (by decide)))
      have f95 := f68.other W82 (Ne.symm n1)
      have f96 := f69.other W82 (Ne.symm n2)
      have f97 := f70.other W82 (Ne.symm n3)
      have f98 := f71.other W82 (Ne.symm n4)
      have f99 := f72.other W82 (Ne.symm m1)
      have f100 := f73.wr W82
      have f101 := f74.other W82 (Or.inl x1n)
      have f102 := f75.other W82 (Or.inl x1n)
      have K103 := K76.wr W82 (Or.inl (List.mem_of_getElem? (i := 0) rfl))
      have N104 := Fr.snoc X82 N77 gw0
      have Z105 : n0 ≤ h82.size := Nat.le_trans Z78 (Keep.of_wr W82).1
      show own_Goes _ _ _ _ _ _ _ (T82.setTop (mkF m 67 #[.val (.ref x0), .val (.long x1), .second, .val (.ref x2)] []))
      refine own_Goes.step (fun tq kq => XS.aloadN X82.here hx rfl (hb hby d5_67) rfl rfl kq) ?_
      show own_Goes _ _ _ _ _ _ _ (T82.setTop (mkF m 68 #[.val (.ref x0), .val (.long x1), .second, .val (.ref x2)] [(.ref x0)]))
      refine own_Goes.step (fun tq kq => XS.dup X82.here hx rfl (hb hby d5_68) rfl rfl kq) ?_
      show own_Goes _ _ _ _ _ _ _ (T82.setTop (mkF m 69 #[.val (.ref x0), .val (.long x1), .second, .val (.ref x2)] [(.ref x0), (.ref x0)]))
      obtain ⟨T106, X106, e106, st106⟩ := getF X82 hx hZ hown (host := "") (Or.inl (own_at hw 55 rfl)) Via.refl e82 f91 (g := (mkF m 69 #[.val (.ref x0), .val (.long x1), .second, .val (.ref x2)] [(.ref x0), (.ref x0)])) rfl rfl (hb hby d5_69)
      refine own_Goes.step st106 ?_
      show own_Goes _ _ _ _ _ _ _ (T106.setTop (mkF m 72 #[.val (.ref x0), .val (.long x1), .second, .val (.ref x2)] [(.int (0 : Int32)), (.ref x0)]))
      refine own_Goes.step (fun tq kq => XS.aloadN X106.here hx rfl (hb hby d5_72) rfl rfl kq) ?_
      show own_Goes _ _ _ _ _ _ _ (T106.setTop (mkF m 73 #[.val (.ref x0), .val (.long x1), .second, .val (.ref x2)] [(.ref x2), (.int (0 : Int32)), (.ref x0)]))
      obtain ⟨w107, T107, L107, q107, Y107, st107⟩ := own_virt X106 hx hZ e106 f100 hown (own_at hw 57 rfl) (own_at hw 58 rfl) (own_at hw 60 rfl) (own_at hw 59 rfl) (own_at hw 2 rfl) (own_at hw 61 rfl) (by decide) (own_m7 l Z a0 hw [] x2 d h82 f102 ) (by decide) (W := 2) (by decide) (by decide) (by decide) (g := (mkF m 73 #[.val (.ref x0), .val (.long x1), .second, .val (.ref x2)] [(.ref x2), (.int (0 : Int32)), (.ref x0)])) rfl (by rw [hml]; rfl) (argsL := []) (rest := [(.int (0 : Int32)), (.ref x0)]) (lenOf pd_7 rfl) rfl (by show 2 * 0 + _ ≤ _; exact Nat.le_of_eq rfl) (hb hby d5_73)
      obtain ⟨e107, X107⟩ := own_clean q107 Y107 rfl rfl
      obtain ⟨rfl, -, -⟩ := q107
      refine own_Goes.step st107 ?_
      show own_Goes _ _ _ _ _ _ _ (T107.setTop (mkF m 76 #[.val (.ref x0), .val (.long x1), .second, .val (.ref x2)] [(.int (own_f7 d)), (.int (0 : Int32)), (.ref x0)]))
      refine own_Goes.step (fun tq kq => XT.ior X107.here hx rfl (hb hby d5_76) rfl kq) ?_
      show own_Goes _ _ _ _ _ _ _ (T107.setTop (mkF m 77 #[.val (.ref x0), .val (.long x1), .second, .val (.ref x2)] [(.int ((0 : Int32) ||| (own_f7 d))), (.ref x0)]))
      obtain ⟨T108, h108, X108, e108, W108, st108⟩ := putF X107 hx hZ hown (host := "") (Or.inl (own_at hw 55 rfl)) Via.refl e107 (v := (.int ((0 : Int32) ||| (own_f7 d)))) f91 f83 (Or.inl (own_at hw 56 rfl)) (own_at hw 20 rfl) (ty := .boolean) (by decide) (own_fit1 (own_orb (by first | exact Or.inl rfl | exact ham) (own_d7 hd))) (own_fit2 (own_orb (by first | exact Or.inl rfl | exact ham) (own_d7 hd))) (g := (mkF m 77 #[.val (.ref x0), .val (.long x1), .second, .val (.ref x2)] [(.int ((0 : Int32) ||| (own_f7 d))), (.ref x0)])) rfl rfl (hb hby d5_77)
      refine own_Goes.step st108 ?_
      have f109 := f83.wr W108
      have f110 := f84.other W108 (Or.inr (slot_ne (Or.inl (own_at hw 28 rfl)) (Or.inl (own_at hw 56 rfl)) (by decide) (t := (.array .long)) (t' := .boolean) (by decide) (by decide)))
      have f111 := f85.other W108 (Or.inr (slot_ne (Or.inl (own_at hw 30 rfl)) (Or.inl (own_at hw 56 rfl)) (by decide) (t := (.array .long)) (t' := .boolean) (by decide) (by decide)))
      have f112 := f86.other W108 (Or.inr (slot_ne (Or.inl (own_at hw 33 rfl)) (Or.inl (own_at hw 56 rfl)) (by decide) (t := (.array .boolean)) (t' := .boolean) (by decide) (by decide)))
      have f113 := f87.other W108 (Or.inr (slot_ne (Or.inl (own_at hw 36 rfl)) (Or.inl (own_at hw 56 rfl)) (by decide) (t := (.array .int)) (t' := .boolean) (by decide) (by decide)))
      have f114 := f88.other W108 (Or.inr (slot_ne (Or.inl (own_at hw 45 rfl)) (Or.inl (own_at hw 56 rfl)) (by decide) (t := .int) (t' := .boolean) (by decide) (by decide)))
      have f115 := f89.other W108 (Or.inr (slot_ne (Or.inl (own_at hw 52 rfl)) (Or.inl (own_at hw 56 rfl)) (by decide) (t := .long) (t' := .boolean) (by decide) (by decide)))
      have f116 := f90.other W108 (Or.inr (slot_ne (Or.inl (own_at hw 54 rfl)) (Or.inl (own_at hw 56 rfl)) (by decide) (t := .boolean) (t' := .boolean) (by decide) (by decide)))
      have f117 := f91.same W108
      have f118 := f92.other W108 (Or.inr (slot_ne (Or.inl (own_at hw 63 rfl)) (Or.inl (own_at hw 56 rfl)) (by decide) (t := (.array .int)) (t' := .boolean) (by decide) (by decide)))
      have f119 := f93.other W108 (Or.inr (slot_ne (Or.inl (own_at hw 74 rfl)) (Or.inl (own_at hw 56 rfl)) (by decide) (t := .int) (t' := .boolean) (by decide) (by decide)))
      have f120 := f94.other W108 (Or.inr (slot_ne (Or.inl (own_at hw 38 rfl)) (Or.inl (own_at hw 56 rfl)) (by decide) (t := .int) (t' := .boolean) (by decide) (by decide)))
      have f121 := f95.other W108 (Ne.symm n1)
      have f122 := f96.other W108 (Ne.symm n2)
      have f123 := f97.other W108 (Ne.symm n3)
      have f124 := f98.other W108 (Ne.symm n4)
      have f125 := f99.other W108 (Ne.symm m1)
      have f126 := f100.wr W108
      have f127 := f101.other W108 (Or.inl x1n)
      have f128 := f102.other W108 (Or.inl x1n)
      have K129 := K103.wr W108 (Or.inl (List.mem_of_getElem? (i := 0) rfl))
      have N130 := Fr.snoc X108 N104 gw0
      have Z131 : n0 ≤ h108.size := Nat.le_trans Z105 (Keep.of_wr W108).1
      show own_Goes _ _ _ _ _ _ _ (T108.setTop (mkF m 80 #[.val (.ref x0), .val (.long x1), .second, .val (.ref x2)] []))
      refine own_Goes.step (fun tq kq => XS.aloadN X108.here hx rfl (hb hby d5_80) rfl rfl kq) ?_
      show own_Goes _ _ _ _ _ _ _ (T108.setTop (mkF m 81 #[.val (.ref x0), .val (.long x1), .second, .val (.ref x2)] [(.ref x0)]))
      obtain ⟨T132, X132, e132, st132⟩ := getF X108 hx hZ hown (host := "") (Or.inl (own_at hw 27 rfl)) Via.refl e108 f110 (g := (mkF m 81 #[.val (.ref x0), .val (.long x1), .second, .val (.ref x2)] [(.ref x0)])) rfl rfl (hb hby d5_81)
      refine own_Goes.step st132 ?_
      show own_Goes _ _ _ _ _ _ _ (T132.setTop (mkF m 84 #[.val (.ref x0), .val (.long x1), .second, .val (.ref x2)] [(.ref kA)]))
      refine own_Goes.step (fun tq kq => XS.aloadN X132.here hx rfl (hb hby d5_84) rfl rfl kq) ?_
      show own_Goes _ _ _ _ _ _ _ (T132.setTop (mkF m 85 #[.val (.ref x0), .val (.long x1), .second, .val (.ref x2)] [(.ref x0), (.ref kA)]))
      obtain ⟨T133, X133, e133, st133⟩ := getF X132 hx hZ hown (host := "") (Or.inl (own_at hw 44 rfl)) Via.refl e132 f114 (g := (mkF m 85 #[.val (.ref x0), .val (.long x1), .second, .val (.ref x2)] [(.ref x0), (.ref kA)])) rfl rfl (hb hby d5_85)
      refine own_Goes.step st133 ?_
      show own_Goes _ _ _ _ _ _ _ (T133.setTop (mkF m 88 #[.val (.ref x0), .val (.long x1), .second, .val (.ref x2)] [(.int (Int32.ofNat cnt)), (.ref kA)]))
      refine own_Goes.step (fun tq kq => XT.lloadN X133.here hx rfl (hb hby d5_88) rfl kq) ?_
      show own_Goes _ _ _ _ _ _ _ (T133.setTop (mkF m 89 #[.val (.ref x0), .val (.long x1), .second, .val (.ref x2)] [(.long x1), (.int (Int32.ofNat cnt)), (.ref kA)]))
      obtain ⟨T134, h134, X134, e134, W134, st134⟩ := own_last X133 hx hZ e133 f121 (i := cnt) (own_toI (by omega)) hc16 (g := (mkF m 89 #[.val (.ref x0), .val (.long x1), .second, .val (.ref x2)] [(.long x1), (.int (Int32.ofNat cnt)), (.ref kA)])) rfl rfl (hb hby d5_89)
      refine own_Goes.step st134 ?_
      have f135 := f109.wr W134
      have f136 := f110.other W134 (Or.inl n1)
      have f137 := f111.other W134 (Or.inl n1)
      have f138 := f112.other W134 (Or.inl n1)
      have f139 := f113.other W134 (Or.inl n1)
      have f140 := f114.other W134 (Or.inl n1)
      have f141 := f115.other W134 (Or.inl n1)
      have f142 := f116.other W134 (Or.inl n1)
      have f143 := f117.other W134 (Or.inl n1)
      have f144 := f118.other W134 (Or.inl n1)
      have f145 := f119.other W134 (Or.inl n1)
      have f146 := f120.other W134 (Or.inl n1)
      have f147 : own_Ar Z h134 kA .long 16 (fun uu => .long ((fun j => if j = cnt then x1 else K j) uu)) := (f121.set W134).congr fun j _ => by dsimp only; exact (apply_ite Value.long _ _ _).symm
      have f148 := f122.other W134 (Ne.symm n5)
      have f149 := f123.other W134 (Ne.symm n6)
      have f150 := f124.other W134 (Ne.symm n7)
      have f151 := f125.other W134 (Ne.symm m2)
      have f152 := f126.wr W134
      have f153 := f127.other W134 (Or.inl x2n)
      have f154 := f128.other W134 (Or.inl x2n)
      have K155 := K129.wr W134 (Or.inl (List.mem_of_getElem? (i := 1) rfl))
      have N156 := Fr.snoc X134 N130 gw1
      have Z157 : n0 ≤ h134.size := Nat.le_trans Z131 (Keep.of_wr W134).1
      show own_Goes _ _ _ _ _ _ _ (T134.setTop (mkF m 90 #[.val (.ref x0), .val (.long x1), .second, .val (.ref x2)] []))
      refine own_Goes.step (fun tq kq => XS.aloadN X134.here hx rfl (hb hby d5_90) rfl rfl kq) ?_
      show own_Goes _ _ _ _ _ _ _ (T134.setTop (mkF m 91 #[.val (.ref x0), .val (.long x1), .second, .val (.ref x2)] [(.ref x0)]))
      obtain ⟨T158, X158, e158, st158⟩ := getF X134 hx hZ hown (host := "") (Or.inl (own_at hw 29 rfl)) Via.refl e134 f137 (g := (mkF m 91 #[.val (.ref x0), .val (.long x1), .second, .val (.ref x2)] [(.ref x0)])) rfl rfl (hb hby d5_91)
      refine own_Goes.step st158 ?_
      show own_Goes _ _ _ _ _ _ _ (T158.setTop (mkF m 94 #[.val (.ref x0), .val (.long x1), .second, .val (.ref x2)] [(.ref sA)]))
      refine own_Goes.step (fun tq kq => XS.aloadN X158.here hx rfl (hb hby d5_94) rfl rfl kq) ?_
      show own_Goes _ _ _ _ _ _ _ (T158.setTop (mkF m 95 #[.val (.ref x0), .val (.long x1), .second, .val (.ref x2)] [(.ref x0), (.ref sA)]))
      obtain ⟨T159, X159, e159, st159⟩ := getF X158 hx hZ hown (host := "") (Or.inl (own_at hw 44 rfl)) Via.refl e158 f140 (g := (mkF m 95 #[.val (.ref x0), .val (.long x1), .second, .val (.ref x2)] [(.ref x0), (.ref sA)])) rfl rfl (hb hby d5_95)
      refine own_Goes.step st159 ?_
      show own_Goes _ _ _ _ _ _ _ (T159.setTop (mkF m 98 #[.val (.ref x0), .val (.long x1), .second, .val (.ref x2)] [(.int (Int32.ofNat cnt)), (.ref sA)]))
      refine own_Goes.step (fun tq kq => XS.aloadN X159.here hx rfl (hb hby d5_98) rfl rfl kq) ?_
      show own_Goes _ _ _ _ _ _ _ (T159.setTop (mkF m 99 #[.val (.ref x0), .val (.long x1), .second, .val (.ref x2)] [(.ref x2), (.int (Int32.ofNat cnt)), (.ref sA)]))
      obtain ⟨w160, T160, L160, q160, Y160, st160⟩ := own_virt X159 hx hZ e159 f152 hown (own_at hw 46 rfl) (own_at hw 47 rfl) (own_at hw 49 rfl) (own_at hw 48 rfl) (own_at hw 2 rfl) (own_at hw 50 rfl) (by decide) (own_m6 l Z a0 hw [] x2 z h134 f153 ) (by decide) (W := 2) (by decide) (by decide) (by decide) (g := (mkF m 99 #[.val (.ref x0), .val (.long x1), .second, .val (.ref x2)] [(.ref x2), (.int (Int32.ofNat cnt)), (.ref sA)])) rfl (by rw [hml]; rfl) (argsL := []) (rest := [(.int (Int32.ofNat cnt)), (.ref sA)]) (lenOf pd_6 rfl) rfl (by show 2 * 0 + _ ≤ _; exact Nat.le_of_eq rfl) (hb hby d5_99)
      obtain ⟨e160, X160⟩ := own_clean q160 Y160 rfl rfl
      obtain ⟨rfl, -, -⟩ := q160
      refine own_Goes.step st160 ?_
      show own_Goes _ _ _ _ _ _ _ (T160.setTop (mkF m 102 #[.val (.ref x0), .val (.long x1), .second, .val (.ref x2)] [(.long (own_f6 z)), (.int (Int32.ofNat cnt)), (.ref sA)]))
      obtain ⟨T161, h161, X161, e161, W161, st161⟩ := own_last X160 hx hZ e160 f148 (i := cnt) (own_toI (by omega)) hc16 (g := (mkF m 102 #[.val (.ref x0), .val (.long x1), .second, .val (.ref x2)] [(.long (own_f6 z)), (.int (Int32.ofNat cnt)), (.ref sA)])) rfl rfl (hb hby d5_102)
      refine own_Goes.step st161 ?_
      have f162 := f135.wr W161
      have f163 := f136.other W161 (Or.inl n2)
      have f164 := f137.other W161 (Or.inl n2)
      have f165 := f138.other W161 (Or.inl n2)
      have f166 := f139.other W161 (Or.inl n2)
      have f167 := f140.other W161 (Or.inl n2)
      have f168 := f141.other W161 (Or.inl n2)
      have f169 := f142.other W161 (Or.inl n2)
      have f170 := f143.other W161 (Or.inl n2)
      have f171 := f144.other W161 (Or.inl n2)
      have f172 := f145.other W161 (Or.inl n2)
      have f173 := f146.other W161 (Or.inl n2)
      have f174 := f147.other W161 n5
      have f175 : own_Ar Z h161 sA .long 16 (fun uu => .long ((fun j => if j = cnt then (own_f6 z) else Sz j) uu)) := (f148.set W161).congr fun j _ => by dsimp only; exact (apply_ite Value.long _ _ _).symm
      have f176 := f149.other W161 (Ne.symm n8)
      have f177 := f150.other W161 (Ne.symm n9)
      have f178 := f151.other W161 (Ne.symm m3)
      have f179 := f152.wr W161
      have f180 := f153.other W161 (Or.inl x3n)
      have f181 := f154.other W161 (Or.inl x3n)
      have K182 := K155.wr W161 (Or.inl (List.mem_of_getElem? (i := 2) rfl))
      have N183 := Fr.snoc X161 N156 gw2
      have Z184 : n0 ≤ h161.size := Nat.le_trans Z157 (Keep.of_wr W161).1
      show own_Goes _ _ _ _ _ _ _ (T161.setTop (mkF m 103 #[.val (.ref x0), .val (.long x1), .second, .val (.ref x2)] []))
      refine own_Goes.step (fun tq kq => XS.aloadN X161.here hx rfl (hb hby d5_103) rfl rfl kq) ?_
      show own_Goes _ _ _ _ _ _ _ (T161.setTop (mkF m 104 #[.val (.ref x0), .val (.long x1), .second, .val (.ref x2)] [(.ref x0)]))
      obtain ⟨T185, X185, e185, st185⟩ := getF X161 hx hZ hown (host := "") (Or.inl (own_at hw 32 rfl)) Via.refl e161 f165 (g := (mkF m 104 #[.val (.ref x0), .val (.long x1), .second, .val (.ref x2)] [(.ref x0)])) rfl rfl (hb hby d5_104)
      refine own_Goes.step st185 ?_
      show own_Goes _ _ _ _ _ _ _ (T185.setTop (mkF m 107 #[.val (.ref x0), .val (.long x1), .second, .val (.ref x2)] [(.ref dA)]))
      refine own_Goes.step (fun tq kq => XS.aloadN X185.here hx rfl (hb hby d5_107) rfl rfl kq) ?_
      show own_Goes _ _ _ _ _ _ _ (T185.setTop (mkF m 108 #[.val (.ref x0), .val (.long x1), .second, .val (.ref x2)] [(.ref x0), (.ref dA)]))
      obtain ⟨T186, X186, e186, st186⟩ := getF X185 hx hZ hown (host := "") (Or.inl (own_at hw 44 rfl)) Via.refl e185 f167 (g := (mkF m 108 #[.val (.ref x0), .val (.long x1), .second, .val (.ref x2)] [(.ref x0), (.ref dA)])) rfl rfl (hb hby d5_108)
      refine own_Goes.step st186 ?_
      show own_Goes _ _ _ _ _ _ _ (T186.setTop (mkF m 111 #[.val (.ref x0), .val (.long x1), .second, .val (.ref x2)] [(.int (Int32.ofNat cnt)), (.ref dA)]))
      refine own_Goes.step (fun tq kq => XS.aloadN X186.here hx rfl (hb hby d5_111) rfl rfl kq) ?_
      show own_Goes _ _ _ _ _ _ _ (T186.setTop (mkF m 112 #[.val (.ref x0), .val (.long x1), .second, .val (.ref x2)] [(.ref x2), (.int (Int32.ofNat cnt)), (.ref dA)]))
      obtain ⟨w187, T187, L187, q187, Y187, st187⟩ := own_virt X186 hx hZ e186 f179 hown (own_at hw 57 rfl) (own_at hw 58 rfl) (own_at hw 60 rfl) (own_at hw 59 rfl) (own_at hw 2 rfl) (own_at hw 61 rfl) (by decide) (own_m7 l Z a0 hw [] x2 d h161 f181 ) (by decide) (W := 2) (by decide) (by decide) (by decide) (g := (mkF m 112 #[.val (.ref x0), .val (.long x1), .second, .val (.ref x2)] [(.ref x2), (.int (Int32.ofNat cnt)), (.ref dA)])) rfl (by rw [hml]; rfl) (argsL := []) (rest := [(.int (Int32.ofNat cnt)), (.ref dA)]) (lenOf pd_7 rfl) rfl (by show 2 * 0 + _ ≤ _; exact Nat.le_of_eq rfl) (hb hby d5_112)
      obtain ⟨e187, X187⟩ := own_clean q187 Y187 rfl rfl
      obtain ⟨rfl, -, -⟩ := q187
      refine own_Goes.step st187 ?_
      show own_Goes _ _ _ _ _ _ _ (T187.setTop (mkF m 115 #[.val (.ref x0), .val (.long x1), .second, .val (.ref x2)] [(.int (own_f7 d)), (.int (Int32.ofNat cnt)), (.ref dA)]))
      obtain ⟨T188, h188, X188, e188, W188, st188⟩ := own_zast X187 hx hZ e187 f176 (i := cnt) (own_toI (by omega)) hc16 (g := (mkF m 115 #[.val (.ref x0), .val (.long x1), .second, .val (.ref x2)] [(.int (own_f7 d)), (.int (Int32.ofNat cnt)), (.ref dA)])) rfl rfl (hb hby d5_115)
      refine own_Goes.step st188 ?_
      have f189 := f162.wr W188
      have f190 := f163.other W188 (Or.inl n3)
      have f191 := f164.other W188 (Or.inl n3)
      have f192 := f165.other W188 (Or.inl n3)
      have f193 := f166.other W188 (Or.inl n3)
      have f194 := f167.other W188 (Or.inl n3)
      have f195 := f168.other W188 (Or.inl n3)
      have f196 := f169.other W188 (Or.inl n3)
      have f197 := f170.other W188 (Or.inl n3)
      have f198 := f171.other W188 (Or.inl n3)
      have f199 := f172.other W188 (Or.inl n3)
      have f200 := f173.other W188 (Or.inl n3)
      have f201 := f174.other W188 n6
      have f202 := f175.other W188 n8
      have f203 : own_Ar Z h188 dA .boolean 16 (fun uu => .int ((fun j => if j = cnt then (nar .boolean (own_f7 d)) else D j) uu)) := (f176.set W188).congr fun j _ => by dsimp only; exact (apply_ite Value.int _ _ _).symm
      have f204 := f177.other W188 (Ne.symm n10)
      have f205 := f178.other W188 (Ne.symm m4)
      have f206 := f179.wr W188
      have f207 := f180.other W188 (Or.inl x4n)
      have f208 := f181.other W188 (Or.inl x4n)
      have K209 := K182.wr W188 (Or.inl (List.mem_of_getElem? (i := 3) rfl))
      have N210 := Fr.snoc X188 N183 gw3
      have Z211 : n0 ≤ h188.size := Nat.le_trans Z184 (Keep.of_wr W188).1
      show own_Goes _ _ _ _ _ _ _ (T188.setTop (mkF m 116 #[.val (.ref x0), .val (.long x1), .second, .val (.ref x2)] []))
      refine own_Goes.step (fun tq kq => XS.aloadN X188.here hx rfl (hb hby d5_116) rfl rfl kq) ?_
      show own_Goes _ _ _ _ _ _ _ (T188.setTop (mkF m 117 #[.val (.ref x0), .val (.long x1), .second, .val (.ref x2)] [(.ref x0)]))
      refine own_Goes.step (fun tq kq => XS.dup X188.here hx rfl (hb hby d5_117) rfl rfl kq) ?_
      show own_Goes _ _ _ _ _ _ _ (T188.setTop (mkF m 118 #[.val (.ref x0), .val (.long x1), .second, .val (.ref x2)] [(.ref x0), (.ref x0)]))
      obtain ⟨T212, X212, e212, st212⟩ := getF X188 hx hZ hown (host := "") (Or.inl (own_at hw 44 rfl)) Via.refl e188 f194 (g := (mkF m 118 #[.val (.ref x0), .val (.long x1), .second, .val (.ref x2)] [(.ref x0), (.ref x0)])) rfl rfl (hb hby d5_118)
      refine own_Goes.step st212 ?_
      show own_Goes _ _ _ _ _ _ _ (T212.setTop (mkF m 121 #[.val (.ref x0), .val (.long x1), .second, .val (.ref x2)] [(.int (Int32.ofNat cnt)), (.ref x0)]))
      refine own_Goes.step (fun tq kq => XT.iconstV X212.here hx rfl (1 : Int32) (hb hby d5_121) (by decide) kq) ?_
      show own_Goes _ _ _ _ _ _ _ (T212.setTop (mkF m 122 #[.val (.ref x0), .val (.long x1), .second, .val (.ref x2)] [(.int (1 : Int32)), (.int (Int32.ofNat cnt)), (.ref x0)]))
      refine own_Goes.step (fun tq kq => XS.iadd X212.here hx rfl (hb hby d5_122) rfl kq) ?_
      show own_Goes _ _ _ _ _ _ _ (T212.setTop (mkF m 123 #[.val (.ref x0), .val (.long x1), .second, .val (.ref x2)] [(.int ((Int32.ofNat cnt) + (1 : Int32))), (.ref x0)]))
      obtain ⟨T213, h213, X213, e213, W213, st213⟩ := putF X212 hx hZ hown (host := "") (Or.inl (own_at hw 44 rfl)) Via.refl e212 (v := (.int ((Int32.ofNat cnt) + (1 : Int32)))) f194 f189 (Or.inl (own_at hw 45 rfl)) (own_at hw 20 rfl) (ty := .int) (by decide) rfl rfl (g := (mkF m 123 #[.val (.ref x0), .val (.long x1), .second, .val (.ref x2)] [(.int ((Int32.ofNat cnt) + (1 : Int32))), (.ref x0)])) rfl rfl (hb hby d5_123)
      refine own_Goes.step st213 ?_
      have f214 := f189.wr W213
      have f215 := f190.other W213 (Or.inr (slot_ne (Or.inl (own_at hw 28 rfl)) (Or.inl (own_at hw 45 rfl)) (by decide) (t := (.array .long)) (t' := .int) (by decide) (by decide)))
      have f216 := f191.other W213 (Or.inr (slot_ne (Or.inl (own_at hw 30 rfl)) (Or.inl (own_at hw 45 rfl)) (by decide) (t := (.array .long)) (t' := .int) (by decide) (by decide)))
      have f217 := f192.other W213 (Or.inr (slot_ne (Or.inl (own_at hw 33 rfl)) (Or.inl (own_at hw 45 rfl)) (by decide) (t := (.array .boolean)) (t' := .int) (by decide) (by decide)))
      have f218 := f193.other W213 (Or.inr (slot_ne (Or.inl (own_at hw 36 rfl)) (Or.inl (own_at hw 45 rfl)) (by decide) (t := (.array .int)) (t' := .int) (by decide) (by decide)))
      have f219 := f194.same W213
      have f220 := f195.other W213 (Or.inr (slot_ne (Or.inl (own_at hw 52 rfl)) (Or.inl (own_at hw 45 rfl)) (by decide) (t := .long) (t' := .int) (by decide) (by decide)))
      have f221 := f196.other W213 (Or.inr (slot_ne (Or.inl (own_at hw 54 rfl)) (Or.inl (own_at hw 45 rfl)) (by decide) (t := .boolean) (t' := .int) (by decide) (by decide)))
      have f222 := f197.other W213 (Or.inr (slot_ne (Or.inl (own_at hw 56 rfl)) (Or.inl (own_at hw 45 rfl)) (by decide) (t := .boolean) (t' := .int) (by decide) (by decide)))
      have f223 := f198.other W213 (Or.inr (slot_ne (Or.inl (own_at hw 63 rfl)) (Or.inl (own_at hw 45 rfl)) (by decide) (t := (.array .int)) (t' := .int) (by decide) (by decide)))
      have f224 := f199.other W213 (Or.inr (slot_ne (Or.inl (own_at hw 74 rfl)) (Or.inl (own_at hw 45 rfl)) (by decide) (t := .int) (t' := .int) (by decide) (by decide)))
      have f225 := f200.other W213 (Or.inr (slot_ne (Or.inl (own_at hw 38 rfl)) (Or.inl (own_at hw 45 rfl)) (by decide) (t := .int) (t' := .int) (by decide) (by decide)))
      have f226 := f201.other W213 (Ne.symm n1)
      have f227 := f202.other W213 (Ne.symm n2)
      have f228 := f203.other W213 (Ne.symm n3)
      have f229 := f204.other W213 (Ne.symm n4)
      have f230 := f205.other W213 (Ne.symm m1)
      have f231 := f206.wr W213
      have f232 := f207.other W213 (Or.inl x1n)
      have f233 := f208.other W213 (Or.inl x1n)
      have K234 := K209.wr W213 (Or.inl (List.mem_of_getElem? (i := 0) rfl))
      have N235 := Fr.snoc X213 N210 gw0
      have Z236 : n0 ≤ h213.size := Nat.le_trans Z211 (Keep.of_wr W213).1
      show own_Goes _ _ _ _ _ _ _ (T213.setTop (mkF m 126 #[.val (.ref x0), .val (.long x1), .second, .val (.ref x2)] []))
      refine own_Goes.step (fun tq kq => XS.aloadN X213.here hx rfl (hb hby d5_126) rfl rfl kq) ?_
      show own_Goes _ _ _ _ _ _ _ (T213.setTop (mkF m 127 #[.val (.ref x0), .val (.long x1), .second, .val (.ref x2)] [(.ref x0)]))
      obtain ⟨T237, X237, e237, st237⟩ := getF X213 hx hZ hown (host := "") (Or.inl (own_at hw 62 rfl)) Via.refl e213 f223 (g := (mkF m 127 #[.val (.ref x0), .val (.long x1), .second, .val (.ref x2)] [(.ref x0)])) rfl rfl (hb hby d5_127)
      refine own_Goes.step st237 ?_
      show own_Goes _ _ _ _ _ _ _ (T237.setTop (mkF m 130 #[.val (.ref x0), .val (.long x1), .second, .val (.ref x2)] [(.ref iA)]))
      refine own_Goes.step (fun tq kq => XS.ifnullNo X237.here hx rfl (hb hby d5_130) rfl kq) ?_
      show own_Goes _ _ _ _ _ _ _ (T237.setTop (mkF m 133 #[.val (.ref x0), .val (.long x1), .second, .val (.ref x2)] []))
      refine own_Goes.step (fun tq kq => XS.aloadN X237.here hx rfl (hb hby d5_133) rfl rfl kq) ?_
      show own_Goes _ _ _ _ _ _ _ (T237.setTop (mkF m 134 #[.val (.ref x0), .val (.long x1), .second, .val (.ref x2)] [(.ref x0)]))
      refine own_Goes.step (fun tq kq => XS.aloadN X237.here hx rfl (hb hby d5_134) rfl rfl kq) ?_
      show own_Goes _ _ _ _ _ _ _ (T237.setTop (mkF m 135 #[.val (.ref x0), .val (.long x1), .second, .val (.ref x2)] [(.ref x0), (.ref x0)]))
      obtain ⟨T239, X239, e239, st239⟩ := getF X237 hx hZ hown (host := "") (Or.inl (own_at hw 44 rfl)) Via.refl e237 f219 (g := (mkF m 135 #[.val (.ref x0), .val (.long x1), .second, .val (.ref x2)] [(.ref x0), (.ref x0)])) rfl rfl (hb hby d5_135)
      refine own_Goes.step st239 ?_
      show own_Goes _ _ _ _ _ _ _ (T239.setTop (mkF m 138 #[.val (.ref x0), .val (.long x1), .second, .val (.ref x2)] [(.int ((Int32.ofNat cnt) + (1 : Int32))), (.ref x0)]))
      refine own_Goes.step (fun tq kq => XT.iconstV X239.here hx rfl (1 : Int32) (hb hby d5_138) (by decide) kq) ?_
      show own_Goes _ _ _ _ _ _ _ (T239.setTop (mkF m 139 #[.val (.ref x0), .val (.long x1), .second, .val (.ref x2)] [(.int (1 : Int32)), (.int ((Int32.ofNat cnt) + (1 : Int32))), (.ref x0)]))
      refine own_Goes.step (fun tq kq => XS.isub X239.here hx rfl (hb hby d5_139) rfl kq) ?_
      show own_Goes _ _ _ _ _ _ _ (T239.setTop (mkF m 140 #[.val (.ref x0), .val (.long x1), .second, .val (.ref x2)] [(.int (((Int32.ofNat cnt) + (1 : Int32)) - (1 : Int32))), (.ref x0)]))
      obtain ⟨w240, T240, L240, q240, Y240, st240⟩ := own_priv X239 hx hZ e239 f214 hown (own_at hw 75 rfl) (own_at hw 77 rfl) (own_at hw 20 rfl) (own_at hw 76 rfl) (own_at hw 21 rfl) (own_at hw 78 rfl) (by decide) (own_m10 l Z a0 hw [] x0 (((Int32.ofNat cnt) + (1 : Int32)) - (1 : Int32)) kA sA dA pA (own_setJ K cnt x1) (own_setJ Sz cnt z) (own_set D cnt (nar .boolean (own_f7 d))) (cnt + 1) (own_f6 z) ((0 : Int32) ||| (0 : Int32)) ((0 : Int32) ||| (own_f7 d)) la ix iA S cnt tt n0 h213 ⟨f214, f215, f216, f217, f218, (own_cnt cnt ▸ f219), f220, f221, f222, f223, f224, f225, f226, f227, f228, f229, n1, n2, n3, n4, n5, n6, n7, n8, n9, n10, gw0, gw1, gw2, gw3, (Or.inl rfl), (own_orb (by first | exact Or.inl rfl | exact ham) (own_d7 hd))⟩ ⟨f230, m1, m2, m3, m4, m5, gi⟩ hS (by rw [own_cnt, own_cntp, own_toI (by omega)]) hc16 (by rw [show own_setJ K cnt x1 cnt = x1 from if_pos rfl]; exact hm) htt hix) (by decide) (W := 0) (by decide) (by decide) (by decide) (g := (mkF m 140 #[.val (.ref x0), .val (.long x1), .second, .val (.ref x2)] [(.int (((Int32.ofNat cnt) + (1 : Int32)) - (1 : Int32))), (.ref x0)])) rfl (by rw [hml]; rfl) (argsL := [(.int (((Int32.ofNat cnt) + (1 : Int32)) - (1 : Int32)))]) (rest := []) (lenOf pd_10 rfl) rfl (by show 2 * 0 + _ ≤ _; exact Nat.le_of_eq rfl) (hb hby d5_140)
      obtain ⟨rfl, N240, K240, hif⟩ := q240
      have Nn240 := Fr.app N235 N240
      have Kn240 := K234.trans K240 own_kt5
      refine own_Goes.step st240 ?_
      show own_Goes _ _ _ _ _ _ _ (T240.setTop (mkF m 143 #[.val (.ref x0), .val (.long x1), .second, .val (.ref x2)] []))
      refine own_endV Y240 hx Bd.notSynchronized Bd.returns (hb hby d5_143) ?_ (by decide) (by decide)
      show own_F5s Z x0 x1 x2 kA sA dA pA K Sz D cnt fs mx am la ix z d iA S tt n0 h0 _ T240.heap _
      refine ⟨rfl, Nn240, Kn240, (own_f6 z), ((0 : Int32) ||| (0 : Int32)), ((0 : Int32) ||| (own_f7 d)), fun _ => ⟨rfl, rfl, by rw [own_d7e hd]; exact own_or0 d⟩, ?_⟩
      exact hif
    · refine own_Goes.step (fun tq kq => XS.ifYes X4.here hx rfl (pc0 := 20) (pc' := 41) rfl (hb hby d5_20) rfl (XT.i0_ne_t hc5) (by decide) (by decide) kq) ?_
      show own_Goes _ _ _ _ _ _ _ (T4.setTop (mkF m 41 #[.val (.ref x0), .val (.long x1), .second, .val (.ref x2)] []))
      refine own_Goes.step (fun tq kq => XS.aloadN X4.here hx rfl (hb hby d5_41) rfl rfl kq) ?_
      show own_Goes _ _ _ _ _ _ _ (T4.setTop (mkF m 42 #[.val (.ref x0), .val (.long x1), .second, .val (.ref x2)] [(.ref x0)]))
      refine own_Goes.step (fun tq kq => XS.dup X4.here hx rfl (hb hby d5_42) rfl rfl kq) ?_
      show own_Goes _ _ _ _ _ _ _ (T4.setTop (mkF m 43 #[.val (.ref x0), .val (.long x1), .second, .val (.ref x2)] [(.ref x0), (.ref x0)]))
      obtain ⟨T241, X241, e241, st241⟩ := getF X4 hx hZ hown (host := "") (Or.inl (own_at hw 53 rfl)) Via.refl e4 P6 (g := (mkF m 43 #[.val (.ref x0), .val (.long x1), .second, .val (.ref x2)] [(.ref x0), (.ref x0)])) rfl rfl (hb hby d5_43)
      refine own_Goes.step st241 ?_
      show own_Goes _ _ _ _ _ _ _ (T241.setTop (mkF m 46 #[.val (.ref x0), .val (.long x1), .second, .val (.ref x2)] [(.int mx), (.ref x0)]))
      refine own_Goes.step (fun tq kq => XS.aloadN X241.here hx rfl (hb hby d5_46) rfl rfl kq) ?_
      show own_Goes _ _ _ _ _ _ _ (T241.setTop (mkF m 47 #[.val (.ref x0), .val (.long x1), .second, .val (.ref x2)] [(.ref x2), (.int mx), (.ref x0)]))
      obtain ⟨w242, T242, L242, q242, Y242, st242⟩ := own_virt X241 hx hZ e241 EE hown (own_at hw 46 rfl) (own_at hw 47 rfl) (own_at hw 49 rfl) (own_at hw 48 rfl) (own_at hw 2 rfl) (own_at hw 50 rfl) (by decide) (own_m6 l Z a0 hw [] x2 z h0 PE0 ) (by decide) (W := 2) (by decide) (by decide) (by decide) (g := (mkF m 47 #[.val (.ref x0), .val (.long x1), .second, .val (.ref x2)] [(.ref x2), (.int mx), (.ref x0)])) rfl (by rw [hml]; rfl) (argsL := []) (rest := [(.int mx), (.ref x0)]) (lenOf pd_6 rfl) rfl (by show 2 * 0 + _ ≤ _; exact Nat.le_of_eq rfl) (hb hby d5_47)
      obtain ⟨e242, X242⟩ := own_clean q242 Y242 rfl rfl
      obtain ⟨rfl, -, -⟩ := q242
      refine own_Goes.step st242 ?_
      show own_Goes _ _ _ _ _ _ _ (T242.setTop (mkF m 50 #[.val (.ref x0), .val (.long x1), .second, .val (.ref x2)] [(.long (own_f6 z)), (.int mx), (.ref x0)]))
      refine own_Goes.step (fun tq kq => XS.aloadN X242.here hx rfl (hb hby d5_50) rfl rfl kq) ?_
      show own_Goes _ _ _ _ _ _ _ (T242.setTop (mkF m 51 #[.val (.ref x0), .val (.long x1), .second, .val (.ref x2)] [(.ref x0), (.long (own_f6 z)), (.int mx), (.ref x0)]))
      obtain ⟨T243, X243, e243, st243⟩ := getF X242 hx hZ hown (host := "") (Or.inl (own_at hw 51 rfl)) Via.refl e242 P5 (g := (mkF m 51 #[.val (.ref x0), .val (.long x1), .second, .val (.ref x2)] [(.ref x0), (.long (own_f6 z)), (.int mx), (.ref x0)])) rfl rfl (hb hby d5_51)
      refine own_Goes.step st243 ?_
      show own_Goes _ _ _ _ _ _ _ (T243.setTop (mkF m 54 #[.val (.ref x0), .val (.long x1), .second, .val (.ref x2)] [(.long fs), (.long (own_f6 z)), (.int mx), (.ref x0)]))
      refine own_Goes.step (fun tq kq => XT.lcmp X243.here hx rfl (hb hby d5_54) rfl kq) ?_
      show own_Goes _ _ _ _ _ _ _ (T243.setTop (mkF m 55 #[.val (.ref x0), .val (.long x1), .second, .val (.ref x2)] [(.int (XT.cmpL (own_f6 z) fs)), (.int mx), (.ref x0)]))
      have J404 : own_Goes p e below s (own_F5s Z x0 x1 x2 kA sA dA pA K Sz D cnt fs mx am la ix z d iA S tt n0 h0) 0 0 (T243.setTop (mkF m 63 #[.val (.ref x0), .val (.long x1), .second, .val (.ref x2)] [(.int (own_f5s_1 z fs)), (.int mx), (.ref x0)])) := by
        refine own_Goes.step (fun tq kq => XT.ior X243.here hx rfl (hb hby d5_63) rfl kq) ?_
        show own_Goes _ _ _ _ _ _ _ (T243.setTop (mkF m 64 #[.val (.ref x0), .val (.long x1), .second, .val (.ref x2)] [(.int (mx ||| (own_f5s_1 z fs))), (.ref x0)]))
        obtain ⟨T245, h245, X245, e245, W245, st245⟩ := putF X243 hx hZ hown (host := "") (Or.inl (own_at hw 53 rfl)) Via.refl e243 (v := (.int (mx ||| (own_f5s_1 z fs)))) P6 E0 (Or.inl (own_at hw 54 rfl)) (own_at hw 20 rfl) (ty := .boolean) (by decide) (own_fit1 (own_orb (by first | exact Or.inl rfl | exact hmx) (by unfold own_f5s_1; split <;> first | exact Or.inl rfl | exact Or.inr rfl))) (own_fit2 (own_orb (by first | exact Or.inl rfl | exact hmx) (by unfold own_f5s_1; split <;> first | exact Or.inl rfl | exact Or.inr rfl))) (g := (mkF m 64 #[.val (.ref x0), .val (.long x1), .second, .val (.ref x2)] [(.int (mx ||| (own_f5s_1 z fs))), (.ref x0)])) rfl rfl (hb hby d5_64)
        refine own_Goes.step st245 ?_
        have f246 := E0.wr W245
        have f247 := P0.other W245 (Or.inr (slot_ne (Or.inl (own_at hw 28 rfl)) (Or.inl (own_at hw 54 rfl)) (by decide) (t := (.array .long)) (t' := .boolean) (by decide) (by decide)))
        have f248 := P1.other W245 (Or.inr (slot_ne (Or.inl (own_at hw 30 rfl)) (Or.inl (own_at hw 54 rfl)) (by decide) (t := (.array .long)) (t' := .boolean) (by decide) (by decide)))
        have f249 := P2.other W245 (Or.inr (slot_ne (Or.inl (own_at hw 33 rfl)) (Or.inl (own_at hw 54 rfl)) (by decide) (t := (.array .boolean)) (t' := .boolean) (by decide) (by decide)))
        have f250 := P3.other W245 (Or.inr (slot_ne (Or.inl (own_at hw 36 rfl)) (Or.inl (own_at hw 54 rfl)) (by decide) (t := (.array .int)) (t' := .boolean) (by decide) (by decide)))
        have f251 := P4.other W245 (Or.inr (slot_ne (Or.inl (own_at hw 45 rfl)) (Or.inl (own_at hw 54 rfl)) (by decide) (t := .int) (t' := .boolean) (by decide) (by decide)))
        have f252 := P5.other W245 (Or.inr (slot_ne (Or.inl (own_at hw 52 rfl)) (Or.inl (own_at hw 54 rfl)) (by decide) (t := .long) (t' := .boolean) (by decide) (by decide)))
        have f253 := P6.same W245
        have f254 := P7.other W245 (Or.inr (slot_ne (Or.inl (own_at hw 56 rfl)) (Or.inl (own_at hw 54 rfl)) (by decide) (t := .boolean) (t' := .boolean) (by decide) (by decide)))
        have f255 := P8.other W245 (Or.inr (slot_ne (Or.inl (own_at hw 63 rfl)) (Or.inl (own_at hw 54 rfl)) (by decide) (t := (.array .int)) (t' := .boolean) (by decide) (by decide)))
        have f256 := P9.other W245 (Or.inr (slot_ne (Or.inl (own_at hw 74 rfl)) (Or.inl (own_at hw 54 rfl)) (by decide) (t := .int) (t' := .boolean) (by decide) (by decide)))
        have f257 := P10.other W245 (Or.inr (slot_ne (Or.inl (own_at hw 38 rfl)) (Or.inl (own_at hw 54 rfl)) (by decide) (t := .int) (t' := .boolean) (by decide) (by decide)))
        have f258 := R0.other W245 (Ne.symm n1)
        have f259 := R1.other W245 (Ne.symm n2)
        have f260 := R2.other W245 (Ne.symm n3)
        have f261 := R3.other W245 (Ne.symm n4)
        have f262 := RI.other W245 (Ne.symm m1)
        have f263 := EE.wr W245
        have f264 := PE0.other W245 (Or.inl x1n)
        have f265 := PE1.other W245 (Or.inl x1n)
        have K266 := K0.wr W245 (Or.inl (List.mem_of_getElem? (i := 0) rfl))
        have N267 := Fr.snoc X245 N0 gw0
        have Z268 : n0 ≤ h245.size := Nat.le_trans Z0 (Keep.of_wr W245).1
        show own_Goes _ _ _ _ _ _ _ (T245.setTop (mkF m 67 #[.val (.ref x0), .val (.long x1), .second, .val (.ref x2)] []))
        refine own_Goes.step (fun tq kq => XS.aloadN X245.here hx rfl (hb hby d5_67) rfl rfl kq) ?_
        show own_Goes _ _ _ _ _ _ _ (T245.setTop (mkF m 68 #[.val (.ref x0), .val (.long x1), .second, .val (.ref x2)] [(.ref x0)]))
        refine own_Goes.step (fun tq kq => XS.dup X245.here hx rfl (hb hby d5_68) rfl rfl kq) ?_
        show own_Goes _ _ _ _ _ _ _ (T245.setTop (mkF m 69 #[.val (.ref x0), .val (.long x1), .second, .val (.ref x2)] [(.ref x0), (.ref x0)]))
        obtain ⟨T269, X269, e269, st269⟩ := getF X245 hx hZ hown (host := "") (Or.inl (own_at hw 55 rfl)) Via.refl e245 f254 (g := (mkF m 69 #[.val (.ref x0), .val (.long x1), .second, .val (.ref x2)] [(.ref x0), (.ref x0)])) rfl rfl (hb hby d5_69)
        refine own_Goes.step st269 ?_
        show own_Goes _ _ _ _ _ _ _ (T269.setTop (mkF m 72 #[.val (.ref x0), .val (.long x1), .second, .val (.ref x2)] [(.int am), (.ref x0)]))
        refine own_Goes.step (fun tq kq => XS.aloadN X269.here hx rfl (hb hby d5_72) rfl rfl kq) ?_
        show own_Goes _ _ _ _ _ _ _ (T269.setTop (mkF m 73 #[.val (.ref x0), .val (.long x1), .second, .val (.ref x2)] [(.ref x2), (.int am), (.ref x0)]))
        obtain ⟨w270, T270, L270, q270, Y270, st270⟩ := own_virt X269 hx hZ e269 f263 hown (own_at hw 57 rfl) (own_at hw 58 rfl) (own_at hw 60 rfl) (own_at hw 59 rfl) (own_at hw 2 rfl) (own_at hw 61 rfl) (by decide) (own_m7 l Z a0 hw [] x2 d h245 f265 ) (by decide) (W := 2) (by decide) (by decide) (by decide) (g := (mkF m 73 #[.val (.ref x0), .val (.long x1), .second, .val (.ref x2)] [(.ref x2), (.int am), (.ref x0)])) rfl (by rw [hml]; rfl) (argsL := []) (rest := [(.int am), (.ref x0)]) (lenOf pd_7 rfl) rfl (by show 2 * 0 + _ ≤ _; exact Nat.le_of_eq rfl) (hb hby d5_73)
        obtain ⟨e270, X270⟩ := own_clean q270 Y270 rfl rfl
        obtain ⟨rfl, -, -⟩ := q270
        refine own_Goes.step st270 ?_
        show own_Goes _ _ _ _ _ _ _ (T270.setTop (mkF m 76 #[.val (.ref x0), .val (.long x1), .second, .val (.ref x2)] [(.int (own_f7 d)), (.int am), (.ref x0)]))
        refine own_Goes.step (fun tq kq => XT.ior X270.here hx rfl (hb hby d5_76) rfl kq) ?_
        show own_Goes _ _ _ _ _ _ _ (T270.setTop (mkF m 77 #[.val (.ref x0), .val (.long x1), .second, .val (.ref x2)] [(.int (am ||| (own_f7 d))), (.ref x0)]))
        obtain ⟨T271, h271, X271, e271, W271, st271⟩ := putF X270 hx hZ hown (host := "") (Or.inl (own_at hw 55 rfl)) Via.refl e270 (v := (.int (am ||| (own_f7 d)))) f254 f246 (Or.inl (own_at hw 56 rfl)) (own_at hw 20 rfl) (ty := .boolean) (by decide) (own_fit1 (own_orb (by first | exact Or.inl rfl | exact ham) (own_d7 hd))) (own_fit2 (own_orb (by first | exact Or.inl rfl | exact ham) (own_d7 hd))) (g := (mkF m 77 #[.val (.ref x0), .val (.long x1), .second, .val (.ref x2)] [(.int (am ||| (own_f7 d))), (.ref x0)])) rfl rfl (hb hby d5_77)
        refine own_Goes.step st271 ?_
        have f272 := f246.wr W271
        have f273 := f247.other W271 (Or.inr (slot_ne (Or.inl (own_at hw 28 rfl)) (Or.inl (own_at hw 56 rfl)) (by decide) (t := (.array .long)) (t' := .boolean) (by decide) (by decide)))
        have f274 := f248.other W271 (Or.inr (slot_ne (Or.inl (own_at hw 30 rfl)) (Or.inl (own_at hw 56 rfl)) (by decide) (t := (.array .long)) (t' := .boolean) (by decide) (by decide)))
        have f275 := f249.other W271 (Or.inr (slot_ne (Or.inl (own_at hw 33 rfl)) (Or.inl (own_at hw 56 rfl)) (by decide) (t := (.array .boolean)) (t' := .boolean) (by decide) (by decide)))
        have f276 := f250.other W271 (Or.inr (slot_ne (Or.inl (own_at hw 36 rfl)) (Or.inl (own_at hw 56 rfl)) (by decide) (t := (.array .int)) (t' := .boolean) (by decide) (by decide)))
        have f277 := f251.other W271 (Or.inr (slot_ne (Or.inl (own_at hw 45 rfl)) (Or.inl (own_at hw 56 rfl)) (by decide) (t := .int) (t' := .boolean) (by decide) (by decide)))
        have f278 := f252.other W271 (Or.inr (slot_ne (Or.inl (own_at hw 52 rfl)) (Or.inl (own_at hw 56 rfl)) (by decide) (t := .long) (t' := .boolean) (by decide) (by decide)))
        have f279 := f253.other W271 (Or.inr (slot_ne (Or.inl (own_at hw 54 rfl)) (Or.inl (own_at hw 56 rfl)) (by decide) (t := .boolean) (t' := .boolean) (by decide) (by decide)))
        have f280 := f254.same W271
        have f281 := f255.other W271 (Or.inr (slot_ne (Or.inl (own_at hw 63 rfl)) (Or.inl (own_at hw 56 rfl)) (by decide) (t := (.array .int)) (t' := .boolean) (by decide) (by decide)))
        have f282 := f256.other W271 (Or.inr (slot_ne (Or.inl (own_at hw 74 rfl)) (Or.inl (own_at hw 56 rfl)) (by decide) (t := .int) (t' := .boolean) (by decide) (by decide)))
        have f283 := f257.other W271 (Or.inr (slot_ne (Or.inl (own_at hw 38 rfl)) (Or.inl (own_at hw 56 rfl)) (by decide) (t := .int) (t' := .boolean) (by decide) (by decide)))
        have f284 := f258.other W271 (Ne.symm n1)
        have f285 := f259.other W271 (Ne.symm n2)
        have f286 := f260.other W271 (Ne.symm n3)
        have f287 := f261.other W271 (Ne.symm n4)
        have f288 := f262.other W271 (Ne.symm m1)
        have f289 := f263.wr W271
        have f290 := f264.other W271 (Or.inl x1n)
        have f291 := f265.other W271 (Or.inl x1n)
        have K292 := K266.wr W271 (Or.inl (List.mem_of_getElem? (i := 0) rfl))
        have N293 := Fr.snoc X271 N267 gw0
        have Z294 : n0 ≤ h271.size := Nat.le_trans Z268 (Keep.of_wr W271).1
        show own_Goes _ _ _ _ _ _ _ (T271.setTop (mkF m 80 #[.val (.ref x0), .val (.long x1), .second, .val (.ref x2)] []))
        refine own_Goes.step (fun tq kq => XS.aloadN X271.here hx rfl (hb hby d5_80) rfl rfl kq) ?_
        show own_Goes _ _ _ _ _ _ _ (T271.setTop (mkF m 81 #[.val (.ref x0), .val (.long x1), .second, .val (.ref x2)] [(.ref x0)]))
        obtain ⟨T295, X295, e295, st295⟩ := getF X271 hx hZ hown (host := "") (Or.inl (own_at hw 27 rfl)) Via.refl e271 f273 (g := (mkF m 81 #[.val (.ref x0), .val (.long x1), .second, .val (.ref x2)] [(.ref x0)])) rfl rfl (hb hby d5_81)
        refine own_Goes.step st295 ?_
        show own_Goes _ _ _ _ _ _ _ (T295.setTop (mkF m 84 #[.val (.ref x0), .val (.long x1), .second, .val (.ref x2)] [(.ref kA)]))
        refine own_Goes.step (fun tq kq => XS.aloadN X295.here hx rfl (hb hby d5_84) rfl rfl kq) ?_
        show own_Goes _ _ _ _ _ _ _ (T295.setTop (mkF m 85 #[.val (.ref x0), .val (.long x1), .second, .val (.ref x2)] [(.ref x0), (.ref kA)]))
        obtain ⟨T296, X296, e296, st296⟩ := getF X295 hx hZ hown (host := "") (Or.inl (own_at hw 44 rfl)) Via.refl e295 f277 (g := (mkF m 85 #[.val (.ref x0), .val (.long x1), .second, .val (.ref x2)] [(.ref x0), (.ref kA)])) rfl rfl (hb hby d5_85)
        refine own_Goes.step st296 ?_
        show own_Goes _ _ _ _ _ _ _ (T296.setTop (mkF m 88 #[.val (.ref x0), .val (.long x1), .second, .val (.ref x2)] [(.int (Int32.ofNat cnt)), (.ref kA)]))
        refine own_Goes.step (fun tq kq => XT.lloadN X296.here hx rfl (hb hby d5_88) rfl kq) ?_
        show own_Goes _ _ _ _ _ _ _ (T296.setTop (mkF m 89 #[.val (.ref x0), .val (.long x1), .second, .val (.ref x2)] [(.long x1), (.int (Int32.ofNat cnt)), (.ref kA)]))
        obtain ⟨T297, h297, X297, e297, W297, st297⟩ := own_last X296 hx hZ e296 f284 (i := cnt) (own_toI (by omega)) hc16 (g := (mkF m 89 #[.val (.ref x0), .val (.long x1), .second, .val (.ref x2)] [(.long x1), (.int (Int32.ofNat cnt)), (.ref kA)])) rfl rfl (hb hby d5_89)
        refine own_Goes.step st297 ?_
        have f298 := f272.wr W297
        have f299 := f273.other W297 (Or.inl n1)
        have f300 := f274.other W297 (Or.inl n1)
        have f301 := f275.other W297 (Or.inl n1)
        have f302 := f276.other W297 (Or.inl n1)
        have f303 := f277.other W297 (Or.inl n1)
        have f304 := f278.other W297 (Or.inl n1)
        have f305 := f279.other W297 (Or.inl n1)
        have f306 := f280.other W297 (Or.inl n1)
        have f307 := f281.other W297 (Or.inl n1)
        have f308 := f282.other W297 (Or.inl n1)
        have f309 := f283.other W297 (Or.inl n1)
        have f310 : own_Ar Z h297 kA .long 16 (fun uu => .long ((fun j => if j = cnt then x1 else K j) uu)) := (f284.set W297).congr fun j _ => by dsimp only; exact (apply_ite Value.long _ _ _).symm
        have f311 := f285.other W297 (Ne.symm n5)
        have f312 := f286.other W297 (Ne.symm n6)
        have f313 := f287.other W297 (Ne.symm n7)
        have f314 := f288.other W297 (Ne.symm m2)
        have f315 := f289.wr W297
        have f316 := f290.other W297 (Or.inl x2n)
        have f317 := f291.other W297 (Or.inl x2n)
        have K318 := K292.wr W297 (Or.inl (List.mem_of_getElem? (i := 1) rfl))
        have N319 := Fr.snoc X297 N293 gw1
        have Z320 : n0 ≤ h297.size := Nat.le_trans Z294 (Keep.of_wr W297).1
        show own_Goes _ _ _ _ _ _ _ (T297.setTop (mkF m 90 #[.val (.ref x0), .val (.long x1), .second, .val (.ref x2)] []))
        refine own_Goes.step (fun tq kq => XS.aloadN X297.here hx rfl (hb hby d5_90) rfl rfl kq) ?_
        show own_Goes _ _ _ _ _ _ _ (T297.setTop (mkF m 91 #[.val (.ref x0), .val (.long x1), .second, .val (.ref x2)] [(.ref x0)]))
        obtain ⟨T321, X321, e321, st321⟩ := getF X297 hx hZ hown (host := "") (Or.inl (own_at hw 29 rfl)) Via.refl e297 f300 (g := (mkF m 91 #[.val (.ref x0), .val (.long x1), .second, .val (.ref x2)] [(.ref x0)])) rfl rfl (hb hby d5_91)
        refine own_Goes.step st321 ?_
        show own_Goes _ _ _ _ _ _ _ (T321.setTop (mkF m 94 #[.val (.ref x0), .val (.long x1), .second, .val (.ref x2)] [(.ref sA)]))
        refine own_Goes.step (fun tq kq => XS.aloadN X321.here hx rfl (hb hby d5_94) rfl rfl kq) ?_
        show own_Goes _ _ _ _ _ _ _ (T321.setTop (mkF m 95 #[.val (.ref x0), .val (.long x1), .second, .val (.ref x2)] [(.ref x0), (.ref sA)]))
        obtain ⟨T322, X322, e322, st322⟩ := getF X321 hx hZ hown (host := "") (Or.inl (own_at hw 44 rfl)) Via.refl e321 f303 (g := (mkF m 95 #[.val (.ref x0), .val (.long x1), .second, .val (.ref x2)] [(.ref x0), (.ref sA)])) rfl rfl (hb hby d5_95)
        refine own_Goes.step st322 ?_
        show own_Goes _ _ _ _ _ _ _ (T322.setTop (mkF m 98 #[.val (.ref x0), .val (.long x1), .second, .val (.ref x2)] [(.int (Int32.ofNat cnt)), (.ref sA)]))
        refine own_Goes.step (fun tq kq => XS.aloadN X322.here hx rfl (hb hby d5_98) rfl rfl kq) ?_
        show own_Goes _ _ _ _ _ _ _ (T322.setTop (mkF m 99 #[.val (.ref x0), .val (.long x1), .second, .val (.ref x2)] [(.ref x2), (.int (Int32.ofNat cnt)), (.ref sA)]))
        obtain ⟨w323, T323, L323, q323, Y323, st323⟩ := own_virt X322 hx hZ e322 f315 hown (own_at hw 46 rfl) (own_at hw 47 rfl) (own_at hw 49 rfl) (own_at hw 48 rfl) (own_at hw 2 rfl) (own_at hw 50 rfl) (by decide) (own_m6 l Z a0 hw [] x2 z h297 f316 ) (by decide) (W := 2) (by decide) (by decide) (by decide) (g := (mkF m 99 #[.val (.ref x0), .val (.long x1), .second, .val (.ref x2)] [(.ref x2), (.int (Int32.ofNat cnt)), (.ref sA)])) rfl (by rw [hml]; rfl) (argsL := []) (rest := [(.int (Int32.ofNat cnt)), (.ref sA)]) (lenOf pd_6 rfl) rfl (by show 2 * 0 + _ ≤ _; exact Nat.le_of_eq rfl) (hb hby d5_99)
        obtain ⟨e323, X323⟩ := own_clean q323 Y323 rfl rfl
        obtain ⟨rfl, -, -⟩ := q323
        refine own_Goes.step st323 ?_
        show own_Goes _ _ _ _ _ _ _ (T323.setTop (mkF m 102 #[.val (.ref x0), .val (.long x1), .second, .val (.ref x2)] [(.long (own_f6 z)), (.int (Int32.ofNat cnt)), (.ref sA)]))
        obtain ⟨T324, h324, X324, e324, W324, st324⟩ := own_last X323 hx hZ e323 f311 (i := cnt) (own_toI (by omega)) hc16 (g := (mkF m 102 #[.val (.ref x0), .val (.long x1), .second, .val (.ref x2)] [(.long (own_f6 z)), (.int (Int32.ofNat cnt)), (.ref sA)])) rfl rfl (hb hby d5_102)
        refine own_Goes.step st324 ?_
        have f325 := f298.wr W324
        have f326 := f299.other W324 (Or.inl n2)
        have f327 := f300.other W324 (Or.inl n2)
        have f328 := f301.other W324 (Or.inl n2)
        have f329 := f302.other W324 (Or.inl n2)
        have f330 := f303.other W324 (Or.inl n2)
        have f331 := f304.other W324 (Or.inl n2)
        have f332 := f305.other W324 (Or.inl n2)
        have f333 := f306.other W324 (Or.inl n2)
        have f334 := f307.other W324 (Or.inl n2)
        have f335 := f308.other W324 (Or.inl n2)
        have f336 := f309.other W324 (Or.inl n2)
        have f337 := f310.other W324 n5
        have f338 : own_Ar Z h324 sA .long 16 (fun uu => .long ((fun j => if j = cnt then (own_f6 z) else Sz j) uu)) := (f311.set W324).congr fun j _ => by dsimp only; exact (apply_ite Value.long _ _ _).symm
        have f339 := f312.other W324 (Ne.symm n8)
        have f340 := f313.other W324 (Ne.symm n9)
        have f341 := f314.other W324 (Ne.symm m3)
        have f342 := f315.wr W324
        have f343 := f316.other W324 (Or.inl x3n)
        have f344 := f317.other W324 (Or.inl x3n)
        have K345 := K318.wr W324 (Or.inl (List.mem_of_getElem? (i := 2) rfl))
        have N346 := Fr.snoc X324 N319 gw2
        have Z347 : n0 ≤ h324.size := Nat.le_trans Z320 (Keep.of_wr W324).1
        show own_Goes _ _ _ _ _ _ _ (T324.setTop (mkF m 103 #[.val (.ref x0), .val (.long x1), .second, .val (.ref x2)] []))
        refine own_Goes.step (fun tq kq => XS.aloadN X324.here hx rfl (hb hby d5_103) rfl rfl kq) ?_
        show own_Goes _ _ _ _ _ _ _ (T324.setTop (mkF m 104 #[.val (.ref x0), .val (.long x1), .second, .val (.ref x2)] [(.ref x0)]))
        obtain ⟨T348, X348, e348, st348⟩ := getF X324 hx hZ hown (host := "") (Or.inl (own_at hw 32 rfl)) Via.refl e324 f328 (g := (mkF m 104 #[.val (.ref x0), .val (.long x1), .second, .val (.ref x2)] [(.ref x0)])) rfl rfl (hb hby d5_104)
        refine own_Goes.step st348 ?_
        show own_Goes _ _ _ _ _ _ _ (T348.setTop (mkF m 107 #[.val (.ref x0), .val (.long x1), .second, .val (.ref x2)] [(.ref dA)]))
        refine own_Goes.step (fun tq kq => XS.aloadN X348.here hx rfl (hb hby d5_107) rfl rfl kq) ?_
        show own_Goes _ _ _ _ _ _ _ (T348.setTop (mkF m 108 #[.val (.ref x0), .val (.long x1), .second, .val (.ref x2)] [(.ref x0), (.ref dA)]))
        obtain ⟨T349, X349, e349, st349⟩ := getF X348 hx hZ hown (host := "") (Or.inl (own_at hw 44 rfl)) Via.refl e348 f330 (g := (mkF m 108 #[.val (.ref x0), .val (.long x1), .second, .val (.ref x2)] [(.ref x0), (.ref dA)])) rfl rfl (hb hby d5_108)
        refine own_Goes.step st349 ?_
        show own_Goes _ _ _ _ _ _ _ (T349.setTop (mkF m 111 #[.val (.ref x0), .val (.long x1), .second, .val (.ref x2)] [(.int (Int32.ofNat cnt)), (.ref dA)]))
        refine own_Goes.step (fun tq kq => XS.aloadN X349.here hx rfl (hb hby d5_111) rfl rfl kq) ?_
        show own_Goes _ _ _ _ _ _ _ (T349.setTop (mkF m 112 #[.val (.ref x0), .val (.long x1), .second, .val (.ref x2)] [(.ref x2), (.int (Int32.ofNat cnt)), (.ref dA)]))
        obtain ⟨w350, T350, L350, q350, Y350, st350⟩ := own_virt X349 hx hZ e349 f342 hown (own_at hw 57 rfl) (own_at hw 58 rfl) (own_at hw 60 rfl) (own_at hw 59 rfl) (own_at hw 2 rfl) (own_at hw 61 rfl) (by decide) (own_m7 l Z a0 hw [] x2 d h324 f344 ) (by decide) (W := 2) (by decide) (by decide) (by decide) (g := (mkF m 112 #[.val (.ref x0), .val (.long x1), .second, .val (.ref x2)] [(.ref x2), (.int (Int32.ofNat cnt)), (.ref dA)])) rfl (by rw [hml]; rfl) (argsL := []) (rest := [(.int (Int32.ofNat cnt)), (.ref dA)]) (lenOf pd_7 rfl) rfl (by show 2 * 0 + _ ≤ _; exact Nat.le_of_eq rfl) (hb hby d5_112)
        obtain ⟨e350, X350⟩ := own_clean q350 Y350 rfl rfl
        obtain ⟨rfl, -, -⟩ := q350
        refine own_Goes.step st350 ?_
        show own_Goes _ _ _ _ _ _ _ (T350.setTop (mkF m 115 #[.val (.ref x0), .val (.long x1), .second, .val (.ref x2)] [(.int (own_f7 d)), (.int (Int32.ofNat cnt)), (.ref dA)]))
        obtain ⟨T351, h351, X351, e351, W351, st351⟩ := own_zast X350 hx hZ e350 f339 (i := cnt) (own_toI (by omega)) hc16 (g := (mkF m 115 #[.val (.ref x0), .val (.long x1), .second, .val (.ref x2)] [(.int (own_f7 d)), (.int (Int32.ofNat cnt)), (.ref dA)])) rfl rfl (hb hby d5_115)
        refine own_Goes.step st351 ?_
        have f352 := f325.wr W351
        have f353 := f326.other W351 (Or.inl n3)
        have f354 := f327.other W351 (Or.inl n3)
        have f355 := f328.other W351 (Or.inl n3)
        have f356 := f329.other W351 (Or.inl n3)
        have f357 := f330.other W351 (Or.inl n3)
        have f358 := f331.other W351 (Or.inl n3)
        have f359 := f332.other W351 (Or.inl n3)
        have f360 := f333.other W351 (Or.inl n3)
        have f361 := f334.other W351 (Or.inl n3)
        have f362 := f335.other W351 (Or.inl n3)
        have f363 := f336.other W351 (Or.inl n3)
        have f364 := f337.other W351 n6
        have f365 := f338.other W351 n8
        have f366 : own_Ar Z h351 dA .boolean 16 (fun uu => .int ((fun j => if j = cnt then (nar .boolean (own_f7 d)) else D j) uu)) := (f339.set W351).congr fun j _ => by dsimp only; exact (apply_ite Value.int _ _ _).symm
        have f367 := f340.other W351 (Ne.symm n10)
        have f368 := f341.other W351 (Ne.symm m4)
        have f369 := f342.wr W351
        have f370 := f343.other W351 (Or.inl x4n)
        have f371 := f344.other W351 (Or.inl x4n)
        have K372 := K345.wr W351 (Or.inl (List.mem_of_getElem? (i := 3) rfl))
        have N373 := Fr.snoc X351 N346 gw3
        have Z374 : n0 ≤ h351.size := Nat.le_trans Z347 (Keep.of_wr W351).1
        show own_Goes _ _ _ _ _ _ _ (T351.setTop (mkF m 116 #[.val (.ref x0), .val (.long x1), .second, .val (.ref x2)] []))
        refine own_Goes.step (fun tq kq => XS.aloadN X351.here hx rfl (hb hby d5_116) rfl rfl kq) ?_
        show own_Goes _ _ _ _ _ _ _ (T351.setTop (mkF m 117 #[.val (.ref x0), .val (.long x1), .second, .val (.ref x2)] [(.ref x0)]))
        refine own_Goes.step (fun tq kq => XS.dup X351.here hx rfl (hb hby d5_117) rfl rfl kq) ?_
        show own_Goes _ _ _ _ _ _ _ (T351.setTop (mkF m 118 #[.val (.ref x0), .val (.long x1), .second, .val (.ref x2)] [(.ref x0), (.ref x0)]))
        obtain ⟨T375, X375, e375, st375⟩ := getF X351 hx hZ hown (host := "") (Or.inl (own_at hw 44 rfl)) Via.refl e351 f357 (g := (mkF m 118 #[.val (.ref x0), .val (.long x1), .second, .val (.ref x2)] [(.ref x0), (.ref x0)])) rfl rfl (hb hby d5_118)
        refine own_Goes.step st375 ?_
        show own_Goes _ _ _ _ _ _ _ (T375.setTop (mkF m 121 #[.val (.ref x0), .val (.long x1), .second, .val (.ref x2)] [(.int (Int32.ofNat cnt)), (.ref x0)]))
        refine own_Goes.step (fun tq kq => XT.iconstV X375.here hx rfl (1 : Int32) (hb hby d5_121) (by decide) kq) ?_
        show own_Goes _ _ _ _ _ _ _ (T375.setTop (mkF m 122 #[.val (.ref x0), .val (.long x1), .second, .val (.ref x2)] [(.int (1 : Int32)), (.int (Int32.ofNat cnt)), (.ref x0)]))
        refine own_Goes.step (fun tq kq => XS.iadd X375.here hx rfl (hb hby d5_122) rfl kq) ?_
        show own_Goes _ _ _ _ _ _ _ (T375.setTop (mkF m 123 #[.val (.ref x0), .val (.long x1), .second, .val (.ref x2)] [(.int ((Int32.ofNat cnt) + (1 : Int32))), (.ref x0)]))
        obtain ⟨T376, h376, X376, e376, W376, st376⟩ := putF X375 hx hZ hown (host := "") (Or.inl (own_at hw 44 rfl)) Via.refl e375 (v := (.int ((Int32.ofNat cnt) + (1 : Int32)))) f357 f352 (Or.inl (own_at hw 45 rfl)) (own_at hw 20 rfl) (ty := .int) (by decide) rfl rfl (g := (mkF m 123 #[.val (.ref x0), .val (.long x1), .second, .val (.ref x2)] [(.int ((Int32.ofNat cnt) + (1 : Int32))), (.ref x0)])) rfl rfl (hb hby d5_123)
        refine own_Goes.step st376 ?_
        have f377 := f352.wr W376
        have f378 := f353.other W376 (Or.inr (slot_ne (Or.inl (own_at hw 28 rfl)) (Or.inl (own_at hw 45 rfl)) (by decide) (t := (.array .long)) (t' := .int) (by decide) (by decide)))
        have f379 := f354.other W376 (Or.inr (slot_ne (Or.inl (own_at hw 30 rfl)) (Or.inl (own_at hw 45 rfl)) (by decide) (t := (.array .long)) (t' := .int) (by decide) (by decide)))
        have f380 := f355.other W376 (Or.inr (slot_ne (Or.inl (own_at hw 33 rfl)) (Or.inl (own_at hw 45 rfl)) (by decide) (t := (.array .boolean)) (t' := .int) (by decide) (by decide)))
        have f381 := f356.other W376 (Or.inr (slot_ne (Or.inl (own_at hw 36 rfl)) (Or.inl (own_at hw 45 rfl)) (by decide) (t := (.array .int)) (t' := .int) (by decide) (by decide)))
        have f382 := f357.same W376
        have f383 := f358.other W376 (Or.inr (slot_ne (Or.inl (own_at hw 52 rfl)) (Or.inl (own_at hw 45 rfl)) (by decide) (t := .long) (t' := .int) (by decide) (by decide)))
        have f384 := f359.other W376 (Or.inr (slot_ne (Or.inl (own_at hw 54 rfl)) (Or.inl (own_at hw 45 rfl)) (by decide) (t := .boolean) (t' := .int) (by decide) (by decide)))
        have f385 := f360.other W376 (Or.inr (slot_ne (Or.inl (own_at hw 56 rfl)) (Or.inl (own_at hw 45 rfl)) (by decide) (t := .boolean) (t' := .int) (by decide) (by decide)))
        have f386 := f361.other W376 (Or.inr (slot_ne (Or.inl (own_at hw 63 rfl)) (Or.inl (own_at hw 45 rfl)) (by decide) (t := (.array .int)) (t' := .int) (by decide) (by decide)))
        have f387 := f362.other W376 (Or.inr (slot_ne (Or.inl (own_at hw 74 rfl)) (Or.inl (own_at hw 45 rfl)) (by decide) (t := .int) (t' := .int) (by decide) (by decide)))
        have f388 := f363.other W376 (Or.inr (slot_ne (Or.inl (own_at hw 38 rfl)) (Or.inl (own_at hw 45 rfl)) (by decide) (t := .int) (t' := .int) (by decide) (by decide)))
        have f389 := f364.other W376 (Ne.symm n1)
        have f390 := f365.other W376 (Ne.symm n2)
        have f391 := f366.other W376 (Ne.symm n3)
        have f392 := f367.other W376 (Ne.symm n4)
        have f393 := f368.other W376 (Ne.symm m1)
        have f394 := f369.wr W376
        have f395 := f370.other W376 (Or.inl x1n)
        have f396 := f371.other W376 (Or.inl x1n)
        have K397 := K372.wr W376 (Or.inl (List.mem_of_getElem? (i := 0) rfl))
        have N398 := Fr.snoc X376 N373 gw0
        have Z399 : n0 ≤ h376.size := Nat.le_trans Z374 (Keep.of_wr W376).1
        show own_Goes _ _ _ _ _ _ _ (T376.setTop (mkF m 126 #[.val (.ref x0), .val (.long x1), .second, .val (.ref x2)] []))
        refine own_Goes.step (fun tq kq => XS.aloadN X376.here hx rfl (hb hby d5_126) rfl rfl kq) ?_
        show own_Goes _ _ _ _ _ _ _ (T376.setTop (mkF m 127 #[.val (.ref x0), .val (.long x1), .second, .val (.ref x2)] [(.ref x0)]))
        obtain ⟨T400, X400, e400, st400⟩ := getF X376 hx hZ hown (host := "") (Or.inl (own_at hw 62 rfl)) Via.refl e376 f386 (g := (mkF m 127 #[.val (.ref x0), .val (.long x1), .second, .val (.ref x2)] [(.ref x0)])) rfl rfl (hb hby d5_127)
        refine own_Goes.step st400 ?_
        show own_Goes _ _ _ _ _ _ _ (T400.setTop (mkF m 130 #[.val (.ref x0), .val (.long x1), .second, .val (.ref x2)] [(.ref iA)]))
        refine own_Goes.step (fun tq kq => XS.ifnullNo X400.here hx rfl (hb hby d5_130) rfl kq) ?_
        show own_Goes _ _ _ _ _ _ _ (T400.setTop (mkF m 133 #[.val (.ref x0), .val (.long x1), .second, .val (.ref x2)] []))
        refine own_Goes.step (fun tq kq => XS.aloadN X400.here hx rfl (hb hby d5_133) rfl rfl kq) ?_
        show own_Goes _ _ _ _ _ _ _ (T400.setTop (mkF m 134 #[.val (.ref x0), .val (.long x1), .second, .val (.ref x2)] [(.ref x0)]))
        refine own_Goes.step (fun tq kq => XS.aloadN X400.here hx rfl (hb hby d5_134) rfl rfl kq) ?_
        show own_Goes _ _ _ _ _ _ _ (T400.setTop (mkF m 135 #[.val (.ref x0), .val (.long x1), .second, .val (.ref x2)] [(.ref x0), (.ref x0)]))
        obtain ⟨T402, X402, e402, st402⟩ := getF X400 hx hZ hown (host := "") (Or.inl (own_at hw 44 rfl)) Via.refl e400 f382 (g := (mkF m 135 #[.val (.ref x0), .val (.long x1), .second, .val (.ref x2)] [(.ref x0), (.ref x0)])) rfl rfl (hb hby d5_135)
        refine own_Goes.step st402 ?_
        show own_Goes _ _ _ _ _ _ _ (T402.setTop (mkF m 138 #[.val (.ref x0), .val (.long x1), .second, .val (.ref x2)] [(.int ((Int32.ofNat cnt) + (1 : Int32))), (.ref x0)]))
        refine own_Goes.step (fun tq kq => XT.iconstV X402.here hx rfl (1 : Int32) (hb hby d5_138) (by decide) kq) ?_
        show own_Goes _ _ _ _ _ _ _ (T402.setTop (mkF m 139 #[.val (.ref x0), .val (.long x1), .second, .val (.ref x2)] [(.int (1 : Int32)), (.int ((Int32.ofNat cnt) + (1 : Int32))), (.ref x0)]))
        refine own_Goes.step (fun tq kq => XS.isub X402.here hx rfl (hb hby d5_139) rfl kq) ?_
        show own_Goes _ _ _ _ _ _ _ (T402.setTop (mkF m 140 #[.val (.ref x0), .val (.long x1), .second, .val (.ref x2)] [(.int (((Int32.ofNat cnt) + (1 : Int32)) - (1 : Int32))), (.ref x0)]))
        obtain ⟨w403, T403, L403, q403, Y403, st403⟩ := own_priv X402 hx hZ e402 f377 hown (own_at hw 75 rfl) (own_at hw 77 rfl) (own_at hw 20 rfl) (own_at hw 76 rfl) (own_at hw 21 rfl) (own_at hw 78 rfl) (by decide) (own_m10 l Z a0 hw [] x0 (((Int32.ofNat cnt) + (1 : Int32)) - (1 : Int32)) kA sA dA pA (own_setJ K cnt x1) (own_setJ Sz cnt z) (own_set D cnt (nar .boolean (own_f7 d))) (cnt + 1) fs (mx ||| (own_f5s_1 z fs)) (am ||| (own_f7 d)) la ix iA S cnt tt n0 h376 ⟨f377, f378, f379, f380, f381, (own_cnt cnt ▸ f382), f383, f384, f385, f386, f387, f388, f389, f390, f391, f392, n1, n2, n3, n4, n5, n6, n7, n8, n9, n10, gw0, gw1, gw2, gw3, (own_orb (by first | exact Or.inl rfl | exact hmx) (by unfold own_f5s_1; split <;> first | exact Or.inl rfl | exact Or.inr rfl)), (own_orb (by first | exact Or.inl rfl | exact ham) (own_d7 hd))⟩ ⟨f393, m1, m2, m3, m4, m5, gi⟩ hS (by rw [own_cnt, own_cntp, own_toI (by omega)]) hc16 (by rw [show own_setJ K cnt x1 cnt = x1 from if_pos rfl]; exact hm) htt hix) (by decide) (W := 0) (by decide) (by decide) (by decide) (g := (mkF m 140 #[.val (.ref x0), .val (.long x1), .second, .val (.ref x2)] [(.int (((Int32.ofNat cnt) + (1 : Int32)) - (1 : Int32))), (.ref x0)])) rfl (by rw [hml]; rfl) (argsL := [(.int (((Int32.ofNat cnt) + (1 : Int32)) - (1 : Int32)))]) (rest := []) (lenOf pd_10 rfl) rfl (by show 2 * 0 + _ ≤ _; exact Nat.le_of_eq rfl) (hb hby d5_140)
        obtain ⟨rfl, N403, K403, hif⟩ := q403
        have Nn403 := Fr.app N398 N403
        have Kn403 := K397.trans K403 own_kt5
        refine own_Goes.step st403 ?_
        show own_Goes _ _ _ _ _ _ _ (T403.setTop (mkF m 143 #[.val (.ref x0), .val (.long x1), .second, .val (.ref x2)] []))
        refine own_endV Y403 hx Bd.notSynchronized Bd.returns (hb hby d5_143) ?_ (by decide) (by decide)
        show own_F5s Z x0 x1 x2 kA sA dA pA K Sz D cnt fs mx am la ix z d iA S tt n0 h0 _ T403.heap _
        refine ⟨rfl, Nn403, Kn403, fs, (mx ||| (own_f5s_1 z fs)), (am ||| (own_f7 d)), fun q => absurd (by rw [q]; rfl) hc5, ?_⟩
        exact hif
      by_cases hc244 : (own_f6 z) = fs
      · refine own_Goes.step (fun tq kq => XS.ifYes X243.here hx rfl (pc0 := 55) (pc' := 62) rfl (hb hby d5_55) rfl (XT.ll_eq_t hc244) (by decide) (by decide) kq) ?_
        show own_Goes _ _ _ _ _ _ _ (T243.setTop (mkF m 62 #[.val (.ref x0), .val (.long x1), .second, .val (.ref x2)] [(.int mx), (.ref x0)]))
        refine own_Goes.step (fun tq kq => XT.iconstV X243.here hx rfl (0 : Int32) (hb hby d5_62) (by decide) kq) ?_
        show own_Goes _ _ _ _ _ _ _ (T243.setTop (mkF m 63 #[.val (.ref x0), .val (.long x1), .second, .val (.ref x2)] [(.int (0 : Int32)), (.int mx), (.ref x0)]))
        rw [show (own_f5s_1 z fs) = (0 : Int32) from by simp only [own_f5s_1, if_pos hc244]] at J404
        exact J404
      · refine own_Goes.step (fun tq kq => XS.ifNo X243.here hx rfl (hb hby d5_55) rfl (XT.ll_eq_f hc244) kq) ?_
        show own_Goes _ _ _ _ _ _ _ (T243.setTop (mkF m 58 #[.val (.ref x0), .val (.long x1), .second, .val (.ref x2)] [(.int mx), (.ref x0)]))
        refine own_Goes.step (fun tq kq => XT.iconstV X243.here hx rfl (1 : Int32) (hb hby d5_58) (by decide) kq) ?_
        show own_Goes _ _ _ _ _ _ _ (T243.setTop (mkF m 59 #[.val (.ref x0), .val (.long x1), .second, .val (.ref x2)] [(.int (1 : Int32)), (.int mx), (.ref x0)]))
        refine own_Goes.step (fun tq kq => XS.goto X243.here hx rfl (pc0 := 59) (pc' := 63) rfl (hb hby d5_59) (by decide) (by decide) kq) ?_
        show own_Goes _ _ _ _ _ _ _ (T243.setTop (mkF m 63 #[.val (.ref x0), .val (.long x1), .second, .val (.ref x2)] [(.int (1 : Int32)), (.int mx), (.ref x0)]))
        rw [show (own_f5s_1 z fs) = (1 : Int32) from by simp only [own_f5s_1, if_neg hc244]] at J404
        exact J404
  obtain ⟨t2, o2, q1, q2, q3, q4⟩ := hgo
  exact ⟨t2, o2, castTop (ef_5 m x0 x1 x2) q1, q2, q3, q4⟩
theorem d13_0 : decode prog_67_method_3_code 0 = .ok (.aload_n 0, 1) := by decide +kernel
theorem d13_1 : decode prog_67_method_3_code 1 = .ok (.dup, 1) := by decide +kernel
theorem d13_2 : decode prog_67_method_3_code 2 = .ok (.getfield 28, 3) := by decide +kernel
theorem d13_5 : decode prog_67_method_3_code 5 = .ok (.iconst 1, 1) := by decide +kernel
theorem d13_6 : decode prog_67_method_3_code 6 = .ok (.isub, 1) := by decide +kernel
theorem d13_7 : decode prog_67_method_3_code 7 = .ok (.putfield 28, 3) := by decide +kernel
theorem d13_10 : decode prog_67_method_3_code 10 = .ok (.aload_n 0, 1) := by decide +kernel
theorem d13_11 : decode prog_67_method_3_code 11 = .ok (.getfield 55, 3) := by decide +kernel
theorem d13_14 : decode prog_67_method_3_code 14 = .ok (.ifnull 10, 3) := by decide +kernel
theorem d13_17 : decode prog_67_method_3_code 17 = .ok (.aload_n 0, 1) := by decide +kernel
theorem d13_18 : decode prog_67_method_3_code 18 = .ok (.getfield 24, 3) := by decide +kernel
theorem d13_21 : decode prog_67_method_3_code 21 = .ok (.ifCond .ge 4, 3) := by decide +kernel
theorem d13_24 : decode prog_67_method_3_code 24 = .ok (.return_, 1) := by decide +kernel
theorem d13_25 : decode prog_67_method_3_code 25 = .ok (.aload_n 0, 1) := by decide +kernel
theorem d13_26 : decode prog_67_method_3_code 26 = .ok (.getfield 55, 3) := by decide +kernel
theorem d13_29 : decode prog_67_method_3_code 29 = .ok (.aload_n 0, 1) := by decide +kernel
theorem d13_30 : decode prog_67_method_3_code 30 = .ok (.getfield 24, 3) := by decide +kernel
theorem d13_33 : decode prog_67_method_3_code 33 = .ok (.iconst 0, 1) := by decide +kernel
theorem d13_34 : decode prog_67_method_3_code 34 = .ok (.iastore, 1) := by decide +kernel
theorem d13_35 : decode prog_67_method_3_code 35 = .ok (.aload_n 0, 1) := by decide +kernel
theorem d13_36 : decode prog_67_method_3_code 36 = .ok (.dup, 1) := by decide +kernel
theorem d13_37 : decode prog_67_method_3_code 37 = .ok (.getfield 62, 3) := by decide +kernel
theorem d13_40 : decode prog_67_method_3_code 40 = .ok (.iconst 1, 1) := by decide +kernel
theorem d13_41 : decode prog_67_method_3_code 41 = .ok (.isub, 1) := by decide +kernel
theorem d13_42 : decode prog_67_method_3_code 42 = .ok (.putfield 62, 3) := by decide +kernel
theorem d13_45 : decode prog_67_method_3_code 45 = .ok (.return_, 1) := by decide +kernel
theorem pn_13 : plainName "com/example/strati/strati/sim/WriteBuffer" = true := by first | (simp [plainName, overriddenIn]; done) | decide +kernel
theorem pd_13 : parseMethodDescriptor "()V" = some ⟨[], none⟩ := by decide +kernel
theorem ef_13 (m : MethodId) (x0 : Addr) : entryFrame m #[(.ref x0)] 1 = mkF m 0 #[.val (.ref x0)] [] := by first | (simp [entryFrame, mkF, argsToLocals, Value.category]; done) | rfl
def own_F13n (Z : State) (x0 : Addr) (kA sA dA pA : Addr) (K Sz : Nat → Int64) (D : Nat → Int32) (cnt : Nat) (fs : Int64) (mx am la ix : Int32) (n0 : Nat) (h0 : Heap) (v : Option Value) (h : Heap) (L : List Loc) : Prop := v = none ∧ Fr n0 L ∧ own_W Z h n0 x0 kA sA dA pA .null K Sz D cnt fs mx am ix la
set_option maxRecDepth 65536 in
set_option maxHeartbeats 40000000 in
theorem own_m13n (l : Launch) (Z : State) (a0 : Array Value) (hw : ∀ d ∈ tables_1, d.before a0 Z = true) (ws : List Jvm.Cond) (x0 : Addr) (kA sA dA pA : Addr) (K Sz : Nat → Int64) (D : Nat → Int32) (cnt : Nat) (fs : Int64) (mx am la ix : Int32) (n0 : Nat) (h0 : Heap)  (B : own_W Z h0 n0 x0 kA sA dA pA .null K Sz D (cnt + 1) fs mx am ix la) :
    MetFree l (⟨"com/example/strati/strati/sim/WriteBuffer", "takeBackLastPut", "()V"⟩ : MethodName) (head1 (Jvm.Cond.code (⟨"com/example/strati/strati/sim/WriteBuffer", "takeBackLastPut", "()V"⟩ : MethodName) prog_67_method_3_code 1 none :: ws) ({ frames := 0, cells := 0, slots := 0, locals := 0 } : Room)) (fun a U => a = #[(.ref x0)] ∧ Z.Warmed39 U.vm ∧ U.heap = h0) (fun _ _ _ _ _ => True) (fun _ U o U' => ∃ v L, o = .returned v ∧ own_F13n Z x0 kA sA dA pA K Sz D cnt fs mx am la ix n0 h0 v U'.heap L ∧ FrameEnd U o U' L ({ frames := 0, cells := 0, slots := 0, locals := 0 } : Room).cells ({ frames := 0, cells := 0, slots := 0, locals := 0 } : Room).slots) := by
  refine MetFree.of_bodySF (plainFor_of_name pn_13) hisR ?_
  intro p e s m args below meth c s₁ Bd hml0 hP hK
  obtain ⟨rfl, hZ, hh⟩ := hP
  have hx := Bd.exec
  have hby := Bd.bytes
  have hml : c.maxLocals = 1 := hml0
  have hown : s.vm.findClass "com/example/strati/strati/sim/WriteBuffer" = some m.cls := findClass_of_methodNamed Bd.named
  have hnm := (name_of_methodNamed Bd.named Bd.method).1
  have X0 : Stand p l e ({ frames := 0, cells := 0, slots := 0, locals := 0 } : Room) s m #[(.ref x0)] below meth c s₁ [] 0 0 := Stand.of_body Bd
  have e0 : s₁.heap = h0 := by rw [← hh, Bd.state]; rfl
  obtain ⟨E0, P0, P1, P2, P3, P4, P5, P6, P7, P8, P9, P10, R0, R1, R2, R3, n1, n2, n3, n4, n5, n6, n7, n8, n9, n10, gw0, gw1, gw2, gw3, hmx, ham⟩ := B
  have Z0 : n0 ≤ h0.size := Nat.le_trans gw0 (Nat.le_of_lt E0.lt)
  have N0 := Fr.nil n0
  have K0 : Keep h0 h0 [x0] := Keep.refl h0 [x0]
  have hgo : own_Goes p e below s (own_F13n Z x0 kA sA dA pA K Sz D cnt fs mx am la ix n0 h0) 0 0 (s₁.setTop (mkF m 0 #[.val (.ref x0)] [])) := by
    refine own_Goes.step (fun tq kq => XS.aloadN X0.here hx rfl (hb hby d13_0) rfl rfl kq) ?_
    show own_Goes _ _ _ _ _ _ _ (s₁.setTop (mkF m 1 #[.val (.ref x0)] [(.ref x0)]))
    refine own_Goes.step (fun tq kq => XS.dup X0.here hx rfl (hb hby d13_1) rfl rfl kq) ?_
    show own_Goes _ _ _ _ _ _ _ (s₁.setTop (mkF m 2 #[.val (.ref x0)] [(.ref x0), (.ref x0)]))
    obtain ⟨T1, X1, e1, st1⟩ := getF X0 hx hZ hown (host := "") (Or.inl (own_at hw 44 rfl)) Via.refl e0 P4 (g := (mkF m 2 #[.val (.ref x0)] [(.ref x0), (.ref x0)])) rfl rfl (hb hby d13_2)
    refine own_Goes.step st1 ?_
    show own_Goes _ _ _ _ _ _ _ (T1.setTop (mkF m 5 #[.val (.ref x0)] [(.int (Int32.ofNat (cnt + 1))), (.ref x0)]))
    refine own_Goes.step (fun tq kq => XT.iconstV X1.here hx rfl (1 : Int32) (hb hby d13_5) (by decide) kq) ?_
    show own_Goes _ _ _ _ _ _ _ (T1.setTop (mkF m 6 #[.val (.ref x0)] [(.int (1 : Int32)), (.int (Int32.ofNat (cnt + 1))), (.ref x0)]))
    refine own_Goes.step (fun tq kq => XS.isub X1.here hx rfl (hb hby d13_6) rfl kq) ?_
    show own_Goes _ _ _ _ _ _ _ (T1.setTop (mkF m 7 #[.val (.ref x0)] [(.int ((Int32.ofNat (cnt + 1)) - (1 : Int32))), (.ref x0)]))
    obtain ⟨T2, h2, X2, e2, W2, st2⟩ := putF X1 hx hZ hown (host := "") (Or.inl (own_at hw 44 rfl)) Via.refl e1 (v := (.int ((Int32.ofNat (cnt + 1)) - (1 : Int32)))) P4 E0 (Or.inl (own_at hw 45 rfl)) (own_at hw 20 rfl) (ty := .int) (by decide) rfl rfl (g := (mkF m 7 #[.val (.ref x0)] [(.int ((Int32.ofNat (cnt + 1)) - (1 : Int32))), (.ref x0)])) rfl rfl (hb hby d13_7)
    refine own_Goes.step st2 ?_
    have f3 := E0.wr W2
    have f4 := P0.other W2 (Or.inr (slot_ne (Or.inl (own_at hw 28 rfl)) (Or.inl (own_at hw 45 rfl)) (by decide) (t := (.array .long)) (t' := .int) (by decide) (by decide)))
    have f5 := P1.other W2 (Or.inr (slot_ne (Or.inl (own_at hw 30 rfl)) (Or.inl (own_at hw 45 rfl)) (by decide) (t := (.array .long)) (t' := .int) (by decide) (by decide)))
    have f6 := P2.other W2 (Or.inr (slot_ne (Or.inl (own_at hw 33 rfl)) (Or.inl (own_at hw 45 rfl)) (by decide) (t := (.array .boolean)) (t' := .int) (by decide) (by decide)))
    have f7 := P3.other W2 (Or.inr (slot_ne (Or.inl (own_at hw 36 rfl)) (Or.inl (own_at hw 45 rfl)) (by decide) (t := (.array .int)) (t' := .int) (by decide) (by decide)))
    have f8 := P4.same W2
    have f9 := P5.other W2 (Or.inr (slot_ne (Or.inl (own_at hw 52 rfl)) (Or.inl (own_at hw 45 rfl)) (by decide) (t := .long) (t' := .int) (by decide) (by decide)))
    have f10 := P6.other W2 (Or.inr (slot_ne (Or.inl (own_at hw 54 rfl)) (Or.inl (own_at hw 45 rfl)) (by decide) (t := .boolean) (t' := .int) (by decide) (by decide)))
    have f11 := P7.other W2 (Or.inr (slot_ne (Or.inl (own_at hw 56 rfl)) (Or.inl (own_at hw 45 rfl)) (by decide) (t := .boolean) (t' := .int) (by decide) (by decide)))
    have f12 := P8.other W2 (Or.inr (slot_ne (Or.inl (own_at hw 63 rfl)) (Or.inl (own_at hw 45 rfl)) (by decide) (t := (.array .int)) (t' := .int) (by decide) (by decide)))
    have f13 := P9.other W2 (Or.inr (slot_ne (Or.inl (own_at hw 74 rfl)) (Or.inl (own_at hw 45 rfl)) (by decide) (t := .int) (t' := .int) (by decide) (by decide)))
    have f14 := P10.other W2 (Or.inr (slot_ne (Or.inl (own_at hw 38 rfl)) (Or.inl (own_at hw 45 rfl)) (by decide) (t := .int) (t' := .int) (by decide) (by decide)))
    have f15 := R0.other W2 (Ne.symm n1)
    have f16 := R1.other W2 (Ne.symm n2)
    have f17 := R2.other W2 (Ne.symm n3)
    have f18 := R3.other W2 (Ne.symm n4)
    have K19 := K0.wr W2 (Or.inl (List.mem_of_getElem? (i := 0) rfl))
    have N20 := Fr.snoc X2 N0 gw0
    have Z21 : n0 ≤ h2.size := Nat.le_trans Z0 (Keep.of_wr W2).1
    show own_Goes _ _ _ _ _ _ _ (T2.setTop (mkF m 10 #[.val (.ref x0)] []))
    refine own_Goes.step (fun tq kq => XS.aloadN X2.here hx rfl (hb hby d13_10) rfl rfl kq) ?_
    show own_Goes _ _ _ _ _ _ _ (T2.setTop (mkF m 11 #[.val (.ref x0)] [(.ref x0)]))
    obtain ⟨T22, X22, e22, st22⟩ := getF X2 hx hZ hown (host := "") (Or.inl (own_at hw 62 rfl)) Via.refl e2 f12 (g := (mkF m 11 #[.val (.ref x0)] [(.ref x0)])) rfl rfl (hb hby d13_11)
    refine own_Goes.step st22 ?_
    show own_Goes _ _ _ _ _ _ _ (T22.setTop (mkF m 14 #[.val (.ref x0)] [.null]))
    refine own_Goes.step (fun tq kq => XS.ifnullYes X22.here hx rfl (pc0 := 14) (pc' := 24) rfl (hb hby d13_14) rfl (by decide) (by decide) kq) ?_
    show own_Goes _ _ _ _ _ _ _ (T22.setTop (mkF m 24 #[.val (.ref x0)] []))
    refine own_endV X22 hx Bd.notSynchronized Bd.returns (hb hby d13_24) ?_ (by decide) (by decide)
    show own_F13n Z x0 kA sA dA pA K Sz D cnt fs mx am la ix n0 h0 _ T22.heap _
    rw [e22]
    exact ⟨rfl, N20, ⟨f3, f4, f5, f6, f7, (own_cntp cnt ▸ f8), f9, f10, f11, f12, f13, f14, f15, f16, f17, f18, n1, n2, n3, n4, n5, n6, n7, n8, n9, n10, gw0, gw1, gw2, gw3, hmx, ham⟩⟩
  obtain ⟨t2, o2, q1, q2, q3, q4⟩ := hgo
  exact ⟨t2, o2, castTop (ef_13 m x0) q1, q2, q3, q4⟩
def own_F13m (Z : State) (x0 : Addr) (kA sA dA pA : Addr) (K Sz : Nat → Int64) (D : Nat → Int32) (cnt : Nat) (fs : Int64) (mx am ix : Int32) (iA : Addr) (S : Nat → Int32) (n0 : Nat) (h0 : Heap) (v : Option Value) (h : Heap) (L : List Loc) : Prop := v = none ∧ Fr n0 L ∧ own_W Z h n0 x0 kA sA dA pA (.ref iA) K Sz D cnt fs mx am ix (-1 : Int32) ∧ own_I Z h n0 x0 kA sA dA pA iA S
set_option maxRecDepth 65536 in
set_option maxHeartbeats 40000000 in
theorem own_m13m (l : Launch) (Z : State) (a0 : Array Value) (hw : ∀ d ∈ tables_1, d.before a0 Z = true) (ws : List Jvm.Cond) (x0 : Addr) (kA sA dA pA : Addr) (K Sz : Nat → Int64) (D : Nat → Int32) (cnt : Nat) (fs : Int64) (mx am ix : Int32) (iA : Addr) (S : Nat → Int32) (n0 : Nat) (h0 : Heap)  (B : own_W Z h0 n0 x0 kA sA dA pA (.ref iA) K Sz D (cnt + 1) fs mx am ix (-1 : Int32)) (I : own_I Z h0 n0 x0 kA sA dA pA iA S) :
    MetFree l (⟨"com/example/strati/strati/sim/WriteBuffer", "takeBackLastPut", "()V"⟩ : MethodName) (head1 (Jvm.Cond.code (⟨"com/example/strati/strati/sim/WriteBuffer", "takeBackLastPut", "()V"⟩ : MethodName) prog_67_method_3_code 1 none :: ws) ({ frames := 0, cells := 0, slots := 0, locals := 0 } : Room)) (fun a U => a = #[(.ref x0)] ∧ Z.Warmed39 U.vm ∧ U.heap = h0) (fun _ _ _ _ _ => True) (fun _ U o U' => ∃ v L, o = .returned v ∧ own_F13m Z x0 kA sA dA pA K Sz D cnt fs mx am ix iA S n0 h0 v U'.heap L ∧ FrameEnd U o U' L ({ frames := 0, cells := 0, slots := 0, locals := 0 } : Room).cells ({ frames := 0, cells := 0, slots := 0, locals := 0 } : Room).slots) := by
  refine MetFree.of_bodySF (plainFor_of_name pn_13) hisR ?_
  intro p e s m args below meth c s₁ Bd hml0 hP hK
  obtain ⟨rfl, hZ, hh⟩ := hP
  have hx := Bd.exec
  have hby := Bd.bytes
  have hml : c.maxLocals = 1 := hml0
  have hown : s.vm.findClass "com/example/strati/strati/sim/WriteBuffer" = some m.cls := findClass_of_methodNamed Bd.named
  have hnm := (name_of_methodNamed Bd.named Bd.method).1
  have X0 : Stand p l e ({ frames := 0, cells := 0, slots := 0, locals := 0 } : Room) s m #[(.ref x0)] below meth c s₁ [] 0 0 := Stand.of_body Bd
  have e0 : s₁.heap = h0 := by rw [← hh, Bd.state]; rfl
  obtain ⟨E0, P0, P1, P2, P3, P4, P5, P6, P7, P8, P9, P10, R0, R1, R2, R3, n1, n2, n3, n4, n5, n6, n7, n8, n9, n10, gw0, gw1, gw2, gw3, hmx, ham⟩ := B
  obtain ⟨RI, m1, m2, m3, m4, m5, gi⟩ := I
  have Z0 : n0 ≤ h0.size := Nat.le_trans gw0 (Nat.le_of_lt E0.lt)
  have N0 := Fr.nil n0
  have K0 : Keep h0 h0 [x0, iA] := Keep.refl h0 [x0, iA]
  have hgo : own_Goes p e below s (own_F13m Z x0 kA sA dA pA K Sz D cnt fs mx am ix iA S n0 h0) 0 0 (s₁.setTop (mkF m 0 #[.val (.ref x0)] [])) := by
    refine own_Goes.step (fun tq kq => XS.aloadN X0.here hx rfl (hb hby d13_0) rfl rfl kq) ?_
    show own_Goes _ _ _ _ _ _ _ (s₁.setTop (mkF m 1 #[.val (.ref x0)] [(.ref x0)]))
    refine own_Goes.step (fun tq kq => XS.dup X0.here hx rfl (hb hby d13_1) rfl rfl kq) ?_
    show own_Goes _ _ _ _ _ _ _ (s₁.setTop (mkF m 2 #[.val (.ref x0)] [(.ref x0), (.ref x0)]))
    obtain ⟨T1, X1, e1, st1⟩ := getF X0 hx hZ hown (host := "") (Or.inl (own_at hw 44 rfl)) Via.refl e0 P4 (g := (mkF m 2 #[.val (.ref x0)] [(.ref x0), (.ref x0)])) rfl rfl (hb hby d13_2)
    refine own_Goes.step st1 ?_
    show own_Goes _ _ _ _ _ _ _ (T1.setTop (mkF m 5 #[.val (.ref x0)] [(.int (Int32.ofNat (cnt + 1))), (.ref x0)]))
    refine own_Goes.step (fun tq kq => XT.iconstV X1.here hx rfl (1 : Int32) (hb hby d13_5) (by decide) kq) ?_
    show own_Goes _ _ _ _ _ _ _ (T1.setTop (mkF m 6 #[.val (.ref x0)] [(.int (1 : Int32)), (.int (Int32.ofNat (cnt + 1))), (.ref x0)]))
    refine own_Goes.step (fun tq kq => XS.isub X1.here hx rfl (hb hby d13_6) rfl kq) ?_
    show own_Goes _ _ _ _ _ _ _ (T1.setTop (mkF m 7 #[.val (.ref x0)] [(.int ((Int32.ofNat (cnt + 1)) - (1 : Int32))), (.ref x0)]))
    obtain ⟨T2, h2, X2, e2, W2, st2⟩ := putF X1 hx hZ hown (host := "") (Or.inl (own_at hw 44 rfl)) Via.refl e1 (v := (.int ((Int32.ofNat (cnt + 1)) - (1 : Int32)))) P4 E0 (Or.inl (own_at hw 45 rfl)) (own_at hw 20 rfl) (ty := .int) (by decide) rfl rfl (g := (mkF m 7 #[.val (.ref x0)] [(.int ((Int32.ofNat (cnt + 1)) - (1 : Int32))), (.ref x0)])) rfl rfl (hb hby d13_7)
    refine own_Goes.step st2 ?_
    have f3 := E0.wr W2
    have f4 := P0.other W2 (Or.inr (slot_ne (Or.inl (own_at hw 28 rfl)) (Or.inl (own_at hw 45 rfl)) (by decide) (t := (.array .long)) (t' := .int) (by decide) (by decide)))
    have f5 := P1.other W2 (Or.inr (slot_ne (Or.inl (own_at hw 30 rfl)) (Or.inl (own_at hw 45 rfl)) (by decide) (t := (.array .long)) (t' := .int) (by decide) (by decide)))
    have f6 := P2.other W2 (Or.inr (slot_ne (Or.inl (own_at hw 33 rfl)) (Or.inl (own_at hw 45 rfl)) (by decide) (t := (.array .boolean)) (t' := .int) (by decide) (by decide)))
    have f7 := P3.other W2 (Or.inr (slot_ne (Or.inl (own_at hw 36 rfl)) (Or.inl (own_at hw 45 rfl)) (by decide) (t := (.array .int)) (t' := .int) (by decide) (by decide)))
    have f8 := P4.same W2
    have f9 := P5.other W2 (Or.inr (slot_ne (Or.inl (own_at hw 52 rfl)) (Or.inl (own_at hw 45 rfl)) (by decide) (t := .long) (t' := .int) (by decide) (by decide)))
    have f10 := P6.other W2 (Or.inr (slot_ne (Or.inl (own_at hw 54 rfl)) (Or.inl (own_at hw 45 rfl)) (by decide) (t := .boolean) (t' := .int) (by decide) (by decide)))
    have f11 := P7.other W2 (Or.inr (slot_ne (Or.inl (own_at hw 56 rfl)) (Or.inl (own_at hw 45 rfl)) (by decide) (t := .boolean) (t' := .int) (by decide) (by decide)))
    have f12 := P8.other W2 (Or.inr (slot_ne (Or.inl (own_at hw 63 rfl)) (Or.inl (own_at hw 45 rfl)) (by decide) (t := (.array .int)) (t' := .int) (by decide) (by decide)))
    have f13 := P9.other W2 (Or.inr (slot_ne (Or.inl (own_at hw 74 rfl)) (Or.inl (own_at hw 45 rfl)) (by decide) (t := .int) (t' := .int) (by decide) (by decide)))
    have f14 := P10.other W2 (Or.inr (slot_ne (Or.inl (own_at hw 38 rfl)) (Or.inl (own_at hw 45 rfl)) (by decide) (t := .int) (t' := .int) (by decide) (by decide)))
    have f15 := R0.other W2 (Ne.symm n1)
    have f16 := R1.other W2 (Ne.symm n2)
    have f17 := R2.other W2 (Ne.symm n3)
    have f18 := R3.other W2 (Ne.symm n4)
    have f19 := RI.other W2 (Ne.symm m1)
    have K20 := K0.wr W2 (Or.inl (List.mem_of_getElem? (i := 0) rfl))
    have N21 := Fr.snoc X2 N0 gw0
    have Z22 : n0 ≤ h2.size := Nat.le_trans Z0 (Keep.of_wr W2).1
    show own_Goes _ _ _ _ _ _ _ (T2.setTop (mkF m 10 #[.val (.ref x0)] []))
    refine own_Goes.step (fun tq kq => XS.aloadN X2.here hx rfl (hb hby d13_10) rfl rfl kq) ?_
    show own_Goes _ _ _ _ _ _ _ (T2.setTop (mkF m 11 #[.val (.ref x0)] [(.ref x0)]))
    obtain ⟨T23, X23, e23, st23⟩ := getF X2 hx hZ hown (host := "") (Or.inl (own_at hw 62 rfl)) Via.refl e2 f12 (g := (mkF m 11 #[.val (.ref x0)] [(.ref x0)])) rfl rfl (hb hby d13_11)
    refine own_Goes.step st23 ?_
    show own_Goes _ _ _ _ _ _ _ (T23.setTop (mkF m 14 #[.val (.ref x0)] [(.ref iA)]))
    refine own_Goes.step (fun tq kq => XS.ifnullNo X23.here hx rfl (hb hby d13_14) rfl kq) ?_
    show own_Goes _ _ _ _ _ _ _ (T23.setTop (mkF m 17 #[.val (.ref x0)] []))
    refine own_Goes.step (fun tq kq => XS.aloadN X23.here hx rfl (hb hby d13_17) rfl rfl kq) ?_
    show own_Goes _ _ _ _ _ _ _ (T23.setTop (mkF m 18 #[.val (.ref x0)] [(.ref x0)]))
    obtain ⟨T25, X25, e25, st25⟩ := getF X23 hx hZ hown (host := "") (Or.inl (own_at hw 37 rfl)) Via.refl e23 f14 (g := (mkF m 18 #[.val (.ref x0)] [(.ref x0)])) rfl rfl (hb hby d13_18)
    refine own_Goes.step st25 ?_
    show own_Goes _ _ _ _ _ _ _ (T25.setTop (mkF m 21 #[.val (.ref x0)] [(.int (-1 : Int32))]))
    refine own_Goes.step (fun tq kq => XS.ifNo X25.here hx rfl (hb hby d13_21) rfl (XT.i0_ge_f (by decide)) kq) ?_
    show own_Goes _ _ _ _ _ _ _ (T25.setTop (mkF m 24 #[.val (.ref x0)] []))
    refine own_endV X25 hx Bd.notSynchronized Bd.returns (hb hby d13_24) ?_ (by decide) (by decide)
    show own_F13m Z x0 kA sA dA pA K Sz D cnt fs mx am ix iA S n0 h0 _ T25.heap _
    rw [e25]
    exact ⟨rfl, N21, ⟨f3, f4, f5, f6, f7, (own_cntp cnt ▸ f8), f9, f10, f11, f12, f13, f14, f15, f16, f17, f18, n1, n2, n3, n4, n5, n6, n7, n8, n9, n10, gw0, gw1, gw2, gw3, hmx, ham⟩, ⟨f19, m1, m2, m3, m4, m5, gi⟩⟩
  obtain ⟨t2, o2, q1, q2, q3, q4⟩ := hgo
  exact ⟨t2, o2, castTop (ef_13 m x0) q1, q2, q3, q4⟩
def own_F13a (Z : State) (x0 : Addr) (kA sA dA pA : Addr) (K Sz : Nat → Int64) (D : Nat → Int32) (cnt : Nat) (fs : Int64) (mx am ix : Int32) (iA : Addr) (S : Nat → Int32) (tt : Nat) (n0 : Nat) (h0 : Heap) (v : Option Value) (h : Heap) (L : List Loc) : Prop := v = none ∧ Fr n0 L ∧ own_W Z h n0 x0 kA sA dA pA (.ref iA) K Sz D cnt fs mx am (ix - (1 : Int32)) (Int32.ofNat tt) ∧ own_I Z h n0 x0 kA sA dA pA iA (own_set S tt (0 : Int32))
set_option maxRecDepth 65536 in
set_option maxHeartbeats 40000000 in
theorem own_m13a (l : Launch) (Z : State) (a0 : Array Value) (hw : ∀ d ∈ tables_1, d.before a0 Z = true) (ws : List Jvm.Cond) (x0 : Addr) (kA sA dA pA : Addr) (K Sz : Nat → Int64) (D : Nat → Int32) (cnt : Nat) (fs : Int64) (mx am ix : Int32) (iA : Addr) (S : Nat → Int32) (tt : Nat) (n0 : Nat) (h0 : Heap)  (B : own_W Z h0 n0 x0 kA sA dA pA (.ref iA) K Sz D (cnt + 1) fs mx am ix (Int32.ofNat tt)) (I : own_I Z h0 n0 x0 kA sA dA pA iA S) (htt : tt < 16) :
    MetFree l (⟨"com/example/strati/strati/sim/WriteBuffer", "takeBackLastPut", "()V"⟩ : MethodName) (head1 (Jvm.Cond.code (⟨"com/example/strati/strati/sim/WriteBuffer", "takeBackLastPut", "()V"⟩ : MethodName) prog_67_method_3_code 1 none :: ws) ({ frames := 0, cells := 0, slots := 0, locals := 0 } : Room)) (fun a U => a = #[(.ref x0)] ∧ Z.Warmed39 U.vm ∧ U.heap = h0) (fun _ _ _ _ _ => True) (fun _ U o U' => ∃ v L, o = .returned v ∧ own_F13a Z x0 kA sA dA pA K Sz D cnt fs mx am ix iA S tt n0 h0 v U'.heap L ∧ FrameEnd U o U' L ({ frames := 0, cells := 0, slots := 0, locals := 0 } : Room).cells ({ frames := 0, cells := 0, slots := 0, locals := 0 } : Room).slots) := by
  refine MetFree.of_bodySF (plainFor_of_name pn_13) hisR ?_
  intro p e s m args below meth c s₁ Bd hml0 hP hK
  obtain ⟨rfl, hZ, hh⟩ := hP
  have hx := Bd.exec
  have hby := Bd.bytes
  have hml : c.maxLocals = 1 := hml0
  have hown : s.vm.findClass "com/example/strati/strati/sim/WriteBuffer" = some m.cls := findClass_of_methodNamed Bd.named
  have hnm := (name_of_methodNamed Bd.named Bd.method).1
  have X0 : Stand p l e ({ frames := 0, cells := 0, slots := 0, locals := 0 } : Room) s m #[(.ref x0)] below meth c s₁ [] 0 0 := Stand.of_body Bd
  have e0 : s₁.heap = h0 := by rw [← hh, Bd.state]; rfl
  obtain ⟨E0, P0, P1, P2, P3, P4, P5, P6, P7, P8, P9, P10, R0, R1, R2, R3, n1, n2, n3, n4, n5, n6, n7, n8, n9, n10, gw0, gw1, gw2, gw3, hmx, ham⟩ := B
  obtain ⟨RI, m1, m2, m3, m4, m5, gi⟩ := I
  have Z0 : n0 ≤ h0.size := Nat.le_trans gw0 (Nat.le_of_lt E0.lt)
  have N0 := Fr.nil n0
  have K0 : Keep h0 h0 [x0, iA] := Keep.refl h0 [x0, iA]
  have hgo : own_Goes p e below s (own_F13a Z x0 kA sA dA pA K Sz D cnt fs mx am ix iA S tt n0 h0) 0 0 (s₁.setTop (mkF m 0 #[.val (.ref x0)] [])) := by
    refine own_Goes.step (fun tq kq => XS.aloadN X0.here hx rfl (hb hby d13_0) rfl rfl kq) ?_
    show own_Goes _ _ _ _ _ _ _ (s₁.setTop (mkF m 1 #[.val (.ref x0)] [(.ref x0)]))
    refine own_Goes.step (fun tq kq => XS.dup X0.here hx rfl (hb hby d13_1) rfl rfl kq) ?_
    show own_Goes _ _ _ _ _ _ _ (s₁.setTop (mkF m 2 #[.val (.ref x0)] [(.ref x0), (.ref x0)]))
    obtain ⟨T1, X1, e1, st1⟩ := getF X0 hx hZ hown (host := "") (Or.inl (own_at hw 44 rfl)) Via.refl e0 P4 (g := (mkF m 2 #[.val (.ref x0)] [(.ref x0), (.ref x0)])) rfl rfl (hb hby d13_2)
    refine own_Goes.step st1 ?_
    show own_Goes _ _ _ _ _ _ _ (T1.setTop (mkF m 5 #[.val (.ref x0)] [(.int (Int32.ofNat (cnt + 1))), (.ref x0)]))
    refine own_Goes.step (fun tq kq => XT.iconstV X1.here hx rfl (1 : Int32) (hb hby d13_5) (by decide) kq) ?_
    show own_Goes _ _ _ _ _ _ _ (T1.setTop (mkF m 6 #[.val (.ref x0)] [(.int (1 : Int32)), (.int (Int32.ofNat (cnt + 1))), (.ref x0)]))
    refine own_Goes.step (fun tq kq => XS.isub X1.here hx rfl (hb hby d13_6) rfl kq) ?_
    show own_Goes _ _ _ _ _ _ _ (T1.setTop (mkF m 7 #[.val (.ref x0)] [(.int ((Int32.ofNat (cnt + 1)) - (1 : Int32))), (.ref x0)]))
    obtain ⟨T2, h2, X2, e2, W2, st2⟩ := putF X1 hx hZ hown (host := "") (Or.inl (own_at hw 44 rfl)) Via.refl e1 (v := (.int ((Int32.ofNat (cnt + 1)) - (1 : Int32)))) P4 E0 (Or.inl (own_at hw 45 rfl)) (own_at hw 20 rfl) (ty := .int) (by decide) rfl rfl (g := (mkF m 7 #[.val (.ref x0)] [(.int ((Int32.ofNat (cnt + 1)) - (1 : Int32))), (.ref x0)])) rfl rfl (hb hby d13_7)
    refine own_Goes.step st2 ?_
    have f3 := E0.wr W2
    have f4 := P0.other W2 (Or.inr (slot_ne (Or.inl (own_at hw 28 rfl)) (Or.inl (own_at hw 45 rfl)) (by decide) (t := (.array .long)) (t' := .int) (by decide) (by decide)))
    have f5 := P1.other W2 (Or.inr (slot_ne (Or.inl (own_at hw 30 rfl)) (Or.inl (own_at hw 45 rfl)) (by decide) (t := (.array .long)) (t' := .int) (by decide) (by decide)))
    have f6 := P2.other W2 (Or.inr (slot_ne (Or.inl (own_at hw 33 rfl)) (Or.inl (own_at hw 45 rfl)) (by decide) (t := (.array .boolean)) (t' := .int) (by decide) (by decide)))
    have f7 := P3.other W2 (Or.inr (slot_ne (Or.inl (own_at hw 36 rfl)) (Or.inl (own_at hw 45 rfl)) (by decide) (t := (.array .int)) (t' := .int) (by decide) (by decide)))
    have f8 := P4.same W2
    have f9 := P5.other W2 (Or.inr (slot_ne (Or.inl (own_at hw 52 rfl)) (Or.inl (own_at hw 45 rfl)) (by decide) (t := .long) (t' := .int) (by decide) (by decide)))
    have f10 := P6.other W2 (Or.inr (slot_ne (Or.inl (own_at hw 54 rfl)) (Or.inl (own_at hw 45 rfl)) (by decide) (t := .boolean) (t' := .int) (by decide) (by decide)))
    have f11 := P7.other W2 (Or.inr (slot_ne (Or.inl (own_at hw 56 rfl)) (Or.inl (own_at hw 45 rfl)) (by decide) (t := .boolean) (t' := .int) (by decide) (by decide)))
    have f12 := P8.other W2 (Or.inr (slot_ne (Or.inl (own_at hw 63 rfl)) (Or.inl (own_at hw 45 rfl)) (by decide) (t := (.array .int)) (t' := .int) (by decide) (by decide)))
    have f13 := P9.other W2 (Or.inr (slot_ne (Or.inl (own_at hw 74 rfl)) (Or.inl (own_at hw 45 rfl)) (by decide) (t := .int) (t' := .int) (by decide) (by decide)))
    have f14 := P10.other W2 (Or.inr (slot_ne (Or.inl (own_at hw 38 rfl)) (Or.inl (own_at hw 45 rfl)) (by decide) (t := .int) (t' := .int) (by decide) (by decide)))
    have f15 := R0.other W2 (Ne.symm n1)
    have f16 := R1.other W2 (Ne.symm n2)
    have f17 := R2.other W2 (Ne.symm n3)
    have f18 := R3.other W2 (Ne.symm n4)
    have f19 := RI.other W2 (Ne.symm m1)
    have K20 := K0.wr W2 (Or.inl (List.mem_of_getElem? (i := 0) rfl))
    have N21 := Fr.snoc X2 N0 gw0
    have Z22 : n0 ≤ h2.size := Nat.le_trans Z0 (Keep.of_wr W2).1
    show own_Goes _ _ _ _ _ _ _ (T2.setTop (mkF m 10 #[.val (.ref x0)] []))
    refine own_Goes.step (fun tq kq => XS.aloadN X2.here hx rfl (hb hby d13_10) rfl rfl kq) ?_
    show own_Goes _ _ _ _ _ _ _ (T2.setTop (mkF m 11 #[.val (.ref x0)] [(.ref x0)]))
    obtain ⟨T23, X23, e23, st23⟩ := getF X2 hx hZ hown (host := "") (Or.inl (own_at hw 62 rfl)) Via.refl e2 f12 (g := (mkF m 11 #[.val (.ref x0)] [(.ref x0)])) rfl rfl (hb hby d13_11)
    refine own_Goes.step st23 ?_
    show own_Goes _ _ _ _ _ _ _ (T23.setTop (mkF m 14 #[.val (.ref x0)] [(.ref iA)]))
    refine own_Goes.step (fun tq kq => XS.ifnullNo X23.here hx rfl (hb hby d13_14) rfl kq) ?_
    show own_Goes _ _ _ _ _ _ _ (T23.setTop (mkF m 17 #[.val (.ref x0)] []))
    refine own_Goes.step (fun tq kq => XS.aloadN X23.here hx rfl (hb hby d13_17) rfl rfl kq) ?_
    show own_Goes _ _ _ _ _ _ _ (T23.setTop (mkF m 18 #[.val (.ref x0)] [(.ref x0)]))
    obtain ⟨T25, X25, e25, st25⟩ := getF X23 hx hZ hown (host := "") (Or.inl (own_at hw 37 rfl)) Via.refl e23 f14 (g := (mkF m 18 #[.val (.ref x0)] [(.ref x0)])) rfl rfl (hb hby d13_18)
    refine own_Goes.step st25 ?_
    show own_Goes _ _ _ _ _ _ _ (T25.setTop (mkF m 21 #[.val (.ref x0)] [(.int (Int32.ofNat tt))]))
    refine own_Goes.step (fun tq kq => XS.ifYes X25.here hx rfl (pc0 := 21) (pc' := 25) rfl (hb hby d13_21) rfl (XT.i0_ge_t (own_la0 htt)) (by decide) (by decide) kq) ?_
    show own_Goes _ _ _ _ _ _ _ (T25.setTop (mkF m 25 #[.val (.ref x0)] []))
    refine own_Goes.step (fun tq kq => XS.aloadN X25.here hx rfl (hb hby d13_25) rfl rfl kq) ?_
    show own_Goes _ _ _ _ _ _ _ (T25.setTop (mkF m 26 #[.val (.ref x0)] [(.ref x0)]))
    obtain ⟨T26, X26, e26, st26⟩ := getF X25 hx hZ hown (host := "") (Or.inl (own_at hw 62 rfl)) Via.refl e25 f12 (g := (mkF m 26 #[.val (.ref x0)] [(.ref x0)])) rfl rfl (hb hby d13_26)
    refine own_Goes.step st26 ?_
    show own_Goes _ _ _ _ _ _ _ (T26.setTop (mkF m 29 #[.val (.ref x0)] [(.ref iA)]))
    refine own_Goes.step (fun tq kq => XS.aloadN X26.here hx rfl (hb hby d13_29) rfl rfl kq) ?_
    show own_Goes _ _ _ _ _ _ _ (T26.setTop (mkF m 30 #[.val (.ref x0)] [(.ref x0), (.ref iA)]))
    obtain ⟨T27, X27, e27, st27⟩ := getF X26 hx hZ hown (host := "") (Or.inl (own_at hw 37 rfl)) Via.refl e26 f14 (g := (mkF m 30 #[.val (.ref x0)] [(.ref x0), (.ref iA)])) rfl rfl (hb hby d13_30)
    refine own_Goes.step st27 ?_
    show own_Goes _ _ _ _ _ _ _ (T27.setTop (mkF m 33 #[.val (.ref x0)] [(.int (Int32.ofNat tt)), (.ref iA)]))
    refine own_Goes.step (fun tq kq => XT.iconstV X27.here hx rfl (0 : Int32) (hb hby d13_33) (by decide) kq) ?_
    show own_Goes _ _ _ _ _ _ _ (T27.setTop (mkF m 34 #[.val (.ref x0)] [(.int (0 : Int32)), (.int (Int32.ofNat tt)), (.ref iA)]))
    obtain ⟨T28, h28, X28, e28, W28, st28⟩ := own_iast X27 hx hZ e27 f19 (i := tt) (own_toI (by omega)) htt (g := (mkF m 34 #[.val (.ref x0)] [(.int (0 : Int32)), (.int (Int32.ofNat tt)), (.ref iA)])) rfl rfl (hb hby d13_34)
    refine own_Goes.step st28 ?_
    have f29 := f3.wr W28
    have f30 := f4.other W28 (Or.inl m1)
    have f31 := f5.other W28 (Or.inl m1)
    have f32 := f6.other W28 (Or.inl m1)
    have f33 := f7.other W28 (Or.inl m1)
    have f34 := f8.other W28 (Or.inl m1)
    have f35 := f9.other W28 (Or.inl m1)
    have f36 := f10.other W28 (Or.inl m1)
    have f37 := f11.other W28 (Or.inl m1)
    have f38 := f12.other W28 (Or.inl m1)
    have f39 := f13.other W28 (Or.inl m1)
    have f40 := f14.other W28 (Or.inl m1)
    have f41 := f15.other W28 m2
    have f42 := f16.other W28 m3
    have f43 := f17.other W28 m4
    have f44 := f18.other W28 m5
    have f45 : own_Ar Z h28 iA .int 16 (fun uu => .int ((fun j => if j = tt then (0 : Int32) else S j) uu)) := (f19.set W28).congr fun j _ => by dsimp only; exact (apply_ite Value.int _ _ _).symm
    have K46 := K20.wr W28 (Or.inl (List.mem_of_getElem? (i := 1) rfl))
    have N47 := Fr.snoc X28 N21 gi
    have Z48 : n0 ≤ h28.size := Nat.le_trans Z22 (Keep.of_wr W28).1
    show own_Goes _ _ _ _ _ _ _ (T28.setTop (mkF m 35 #[.val (.ref x0)] []))
    refine own_Goes.step (fun tq kq => XS.aloadN X28.here hx rfl (hb hby d13_35) rfl rfl kq) ?_
    show own_Goes _ _ _ _ _ _ _ (T28.setTop (mkF m 36 #[.val (.ref x0)] [(.ref x0)]))
    refine own_Goes.step (fun tq kq => XS.dup X28.here hx rfl (hb hby d13_36) rfl rfl kq) ?_
    show own_Goes _ _ _ _ _ _ _ (T28.setTop (mkF m 37 #[.val (.ref x0)] [(.ref x0), (.ref x0)]))
    obtain ⟨T49, X49, e49, st49⟩ := getF X28 hx hZ hown (host := "") (Or.inl (own_at hw 73 rfl)) Via.refl e28 f39 (g := (mkF m 37 #[.val (.ref x0)] [(.ref x0), (.ref x0)])) rfl rfl (hb hby d13_37)
    refine own_Goes.step st49 ?_
    show own_Goes _ _ _ _ _ _ _ (T49.setTop (mkF m 40 #[.val (.ref x0)] [(.int ix), (.ref x0)]))
    refine own_Goes.step (fun tq kq => XT.iconstV X49.here hx rfl (1 : Int32) (hb hby d13_40) (by decide) kq) ?_
    show own_Goes _ _ _ _ _ _ _ (T49.setTop (mkF m 41 #[.val (.ref x0)] [(.int (1 : Int32)), (.int ix), (.ref x0)]))
    refine own_Goes.step (fun tq kq => XS.isub X49.here hx rfl (hb hby d13_41) rfl kq) ?_
    show own_Goes _ _ _ _ _ _ _ (T49.setTop (mkF m 42 #[.val (.ref x0)] [(.int (ix - (1 : Int32))), (.ref x0)]))
    obtain ⟨T50, h50, X50, e50, W50, st50⟩ := putF X49 hx hZ hown (host := "") (Or.inl (own_at hw 73 rfl)) Via.refl e49 (v := (.int (ix - (1 : Int32)))) f39 f29 (Or.inl (own_at hw 74 rfl)) (own_at hw 20 rfl) (ty := .int) (by decide) rfl rfl (g := (mkF m 42 #[.val (.ref x0)] [(.int (ix - (1 : Int32))), (.ref x0)])) rfl rfl (hb hby d13_42)
    refine own_Goes.step st50 ?_
    have f51 := f29.wr W50
    have f52 := f30.other W50 (Or.inr (slot_ne (Or.inl (own_at hw 28 rfl)) (Or.inl (own_at hw 74 rfl)) (by decide) (t := (.array .long)) (t' := .int) (by decide) (by decide)))
    have f53 := f31.other W50 (Or.inr (slot_ne (Or.inl (own_at hw 30 rfl)) (Or.inl (own_at hw 74 rfl)) (by decide) (t := (.array .long)) (t' := .int) (by decide) (by decide)))
    have f54 := f32.other W50 (Or.inr (slot_ne (Or.inl (own_at hw 33 rfl)) (Or.inl (own_at hw 74 rfl)) (by decide) (t := (.array .boolean)) (t' := .int) (by decide) (by decide)))
    have f55 := f33.other W50 (Or.inr (slot_ne (Or.inl (own_at hw 36 rfl)) (Or.inl (own_at hw 74 rfl)) (by decide) (t := (.array .int)) (t' := .int) (by decide) (by decide)))
    have f56 := f34.other W50 (Or.inr (slot_ne (Or.inl (own_at hw 45 rfl)) (Or.inl (own_at hw 74 rfl)) (by decide) (t := .int) (t' := .int) (by decide) (by decide)))
    have f57 := f35.other W50 (Or.inr (slot_ne (Or.inl (own_at hw 52 rfl)) (Or.inl (own_at hw 74 rfl)) (by decide) (t := .long) (t' := .int) (by decide) (by decide)))
    have f58 := f36.other W50 (Or.inr (slot_ne (Or.inl (own_at hw 54 rfl)) (Or.inl (own_at hw 74 rfl)) (by decide) (t := .boolean) (t' := .int) (by decide) (by decide)))
    have f59 := f37.other W50 (Or.inr (slot_ne (Or.inl (own_at hw 56 rfl)) (Or.inl (own_at hw 74 rfl)) (by decide) (t := .boolean) (t' := .int) (by decide) (by decide)))
    have f60 := f38.other W50 (Or.inr (slot_ne (Or.inl (own_at hw 63 rfl)) (Or.inl (own_at hw 74 rfl)) (by decide) (t := (.array .int)) (t' := .int) (by decide) (by decide)))
    have f61 := f39.same W50
    have f62 := f40.other W50 (Or.inr (slot_ne (Or.inl (own_at hw 38 rfl)) (Or.inl (own_at hw 74 rfl)) (by decide) (t := .int) (t' := .int) (by decide) (by decide)))
    have f63 := f41.other W50 (Ne.symm n1)
    have f64 := f42.other W50 (Ne.symm n2)
    have f65 := f43.other W50 (Ne.symm n3)
    have f66 := f44.other W50 (Ne.symm n4)
    have f67 := f45.other W50 (Ne.symm m1)
    have K68 := K46.wr W50 (Or.inl (List.mem_of_getElem? (i := 0) rfl))
    have N69 := Fr.snoc X50 N47 gw0
    have Z70 : n0 ≤ h50.size := Nat.le_trans Z48 (Keep.of_wr W50).1
    show own_Goes _ _ _ _ _ _ _ (T50.setTop (mkF m 45 #[.val (.ref x0)] []))
    refine own_endV X50 hx Bd.notSynchronized Bd.returns (hb hby d13_45) ?_ (by decide) (by decide)
    show own_F13a Z x0 kA sA dA pA K Sz D cnt fs mx am ix iA S tt n0 h0 _ T50.heap _
    rw [e50]
    exact ⟨rfl, N69, ⟨f51, f52, f53, f54, f55, (own_cntp cnt ▸ f56), f57, f58, f59, f60, f61, f62, f63, f64, f65, f66, n1, n2, n3, n4, n5, n6, n7, n8, n9, n10, gw0, gw1, gw2, gw3, hmx, ham⟩, ⟨f67, m1, m2, m3, m4, m5, gi⟩⟩
  obtain ⟨t2, o2, q1, q2, q3, q4⟩ := hgo
  exact ⟨t2, o2, castTop (ef_13 m x0) q1, q2, q3, q4⟩
theorem d14_0 : decode prog_67_method_5_code 0 = .ok (.aload_n 0, 1) := by decide +kernel
theorem d14_1 : decode prog_67_method_5_code 1 = .ok (.getfield 28, 3) := by decide +kernel
theorem d14_4 : decode prog_67_method_5_code 4 = .ok (.ifCond .ne 7, 3) := by decide +kernel
theorem d14_7 : decode prog_67_method_5_code 7 = .ok (.iconst 1, 1) := by decide +kernel
theorem d14_8 : decode prog_67_method_5_code 8 = .ok (.goto 4, 3) := by decide +kernel
theorem d14_11 : decode prog_67_method_5_code 11 = .ok (.iconst 0, 1) := by decide +kernel
theorem d14_12 : decode prog_67_method_5_code 12 = .ok (.ireturn, 1) := by decide +kernel
theorem pn_14 : plainName "com/example/strati/strati/sim/WriteBuffer" = true := by first | (simp [plainName, overriddenIn]; done) | decide +kernel
theorem pd_14 : parseMethodDescriptor "()Z" = some ⟨[], (some .boolean)⟩ := by decide +kernel
theorem ef_14 (m : MethodId) (x0 : Addr) : entryFrame m #[(.ref x0)] 1 = mkF m 0 #[.val (.ref x0)] [] := by first | (simp [entryFrame, mkF, argsToLocals, Value.category]; done) | rfl
def own_f14 (vc : Int32) : Int32 := (if vc = (0 : Int32) then (1 : Int32) else (0 : Int32))
def own_F14 (Z : State) (x0 : Addr) (vc : Int32) (h0 : Heap) (v : Option Value) (h : Heap) (L : List Loc) : Prop := v = some (.int (own_f14 vc)) ∧ L = [] ∧ h = h0
set_option maxRecDepth 65536 in
set_option maxHeartbeats 40000000 in
theorem own_m14 (l : Launch) (Z : State) (a0 : Array Value) (hw : ∀ d ∈ tables_1, d.before a0 Z = true) (ws : List Jvm.Cond) (x0 : Addr) (vc : Int32) (h0 : Heap) (P0 : Fld Z h0 x0 "com/example/strati/strati/sim/WriteBuffer" "count" "I" (.int vc))  :
    MetFree l (⟨"com/example/strati/strati/sim/WriteBuffer", "isEmpty", "()Z"⟩ : MethodName) (head1 (Jvm.Cond.code (⟨"com/example/strati/strati/sim/WriteBuffer", "isEmpty", "()Z"⟩ : MethodName) prog_67_method_5_code 1 (some .boolean) :: ws) ({ frames := 0, cells := 0, slots := 0, locals := 0 } : Room)) (fun a U => a = #[(.ref x0)] ∧ Z.Warmed39 U.vm ∧ U.heap = h0) (fun _ _ _ _ _ => True) (fun _ U o U' => ∃ v L, o = .returned v ∧ own_F14 Z x0 vc h0 v U'.heap L ∧ FrameEnd U o U' L ({ frames := 0, cells := 0, slots := 0, locals := 0 } : Room).cells ({ frames := 0, cells := 0, slots := 0, locals := 0 } : Room).slots) := by
  refine MetFree.of_bodySF (plainFor_of_name pn_14) hisR ?_
  intro p e s m args below meth c s₁ Bd hml0 hP hK
  obtain ⟨rfl, hZ, hh⟩ := hP
  have hx := Bd.exec
  have hby := Bd.bytes
  have hml : c.maxLocals = 1 := hml0
  have hown : s.vm.findClass "com/example/strati/strati/sim/WriteBuffer" = some m.cls := findClass_of_methodNamed Bd.named
  have hnm := (name_of_methodNamed Bd.named Bd.method).1
  have X0 : Stand p l e ({ frames := 0, cells := 0, slots := 0, locals := 0 } : Room) s m #[(.ref x0)] below meth c s₁ [] 0 0 := Stand.of_body Bd
  have e0 : s₁.heap = h0 := by rw [← hh, Bd.state]; rfl
  have hgo : own_Goes p e below s (own_F14 Z x0 vc h0) 0 0 (s₁.setTop (mkF m 0 #[.val (.ref x0)] [])) := by
    refine own_Goes.step (fun tq kq => XS.aloadN X0.here hx rfl (hb hby d14_0) rfl rfl kq) ?_
    show own_Goes _ _ _ _ _ _ _ (s₁.setTop (mkF m 1 #[.val (.ref x0)] [(.ref x0)]))
    obtain ⟨T1, X1, e1, st1⟩ := getF X0 hx hZ hown (host := "") (Or.inl (own_at hw 44 rfl)) Via.refl e0 P0 (g := (mkF m 1 #[.val (.ref x0)] [(.ref x0)])) rfl rfl (hb hby d14_1)
    refine own_Goes.step st1 ?_
    show own_Goes _ _ _ _ _ _ _ (T1.setTop (mkF m 4 #[.val (.ref x0)] [(.int vc)]))
    by_cases hc2 : vc = (0 : Int32)
    · refine own_Goes.step (fun tq kq => XS.ifNo X1.here hx rfl (hb hby d14_4) rfl (XT.i0_ne_f hc2) kq) ?_
      show own_Goes _ _ _ _ _ _ _ (T1.setTop (mkF m 7 #[.val (.ref x0)] []))
      refine own_Goes.step (fun tq kq => XT.iconstV X1.here hx rfl (1 : Int32) (hb hby d14_7) (by decide) kq) ?_
      show own_Goes _ _ _ _ _ _ _ (T1.setTop (mkF m 8 #[.val (.ref x0)] [(.int (1 : Int32))]))
      refine own_Goes.step (fun tq kq => XS.goto X1.here hx rfl (pc0 := 8) (pc' := 12) rfl (hb hby d14_8) (by decide) (by decide) kq) ?_
      show own_Goes _ _ _ _ _ _ _ (T1.setTop (mkF m 12 #[.val (.ref x0)] [(.int (1 : Int32))]))
      exact own_endN X1 hx Bd.notSynchronized (t := .boolean) Bd.returns (by simp) (hb hby d14_12) ⟨(congrArg (fun z => some (Value.int z)) (show (1 : Int32) = own_f14 vc from by simp only [own_f14, if_pos hc2])), rfl, e1⟩ (by decide) (by decide)
    · refine own_Goes.step (fun tq kq => XS.ifYes X1.here hx rfl (pc0 := 4) (pc' := 11) rfl (hb hby d14_4) rfl (XT.i0_ne_t hc2) (by decide) (by decide) kq) ?_
      show own_Goes _ _ _ _ _ _ _ (T1.setTop (mkF m 11 #[.val (.ref x0)] []))
      refine own_Goes.step (fun tq kq => XT.iconstV X1.here hx rfl (0 : Int32) (hb hby d14_11) (by decide) kq) ?_
      show own_Goes _ _ _ _ _ _ _ (T1.setTop (mkF m 12 #[.val (.ref x0)] [(.int (0 : Int32))]))
      exact own_endN X1 hx Bd.notSynchronized (t := .boolean) Bd.returns (by simp) (hb hby d14_12) ⟨(congrArg (fun z => some (Value.int z)) (show (0 : Int32) = own_f14 vc from by simp only [own_f14, if_neg hc2])), rfl, e1⟩ (by decide) (by decide)
  obtain ⟨t2, o2, q1, q2, q3, q4⟩ := hgo
  exact ⟨t2, o2, castTop (ef_14 m x0) q1, q2, q3, q4⟩
theorem d4_0 : decode prog_67_method_1_code 0 = .ok (.aload_n 0, 1) := by decide +kernel
theorem d4_1 : decode prog_67_method_1_code 1 = .ok (.invokespecial 1, 3) := by decide +kernel
theorem d4_4 : decode prog_67_method_1_code 4 = .ok (.aload_n 0, 1) := by decide +kernel
theorem d4_5 : decode prog_67_method_1_code 5 = .ok (.bipush 16, 2) := by decide +kernel
theorem d4_7 : decode prog_67_method_1_code 7 = .ok (.newarray .long, 2) := by decide +kernel
theorem d4_9 : decode prog_67_method_1_code 9 = .ok (.putfield 9, 3) := by decide +kernel
theorem d4_12 : decode prog_67_method_1_code 12 = .ok (.aload_n 0, 1) := by decide +kernel
theorem d4_13 : decode prog_67_method_1_code 13 = .ok (.bipush 16, 2) := by decide +kernel
theorem d4_15 : decode prog_67_method_1_code 15 = .ok (.newarray .long, 2) := by decide +kernel
theorem d4_17 : decode prog_67_method_1_code 17 = .ok (.putfield 13, 3) := by decide +kernel
theorem d4_20 : decode prog_67_method_1_code 20 = .ok (.aload_n 0, 1) := by decide +kernel
theorem d4_21 : decode prog_67_method_1_code 21 = .ok (.bipush 16, 2) := by decide +kernel
theorem d4_23 : decode prog_67_method_1_code 23 = .ok (.newarray .boolean, 2) := by decide +kernel
theorem d4_25 : decode prog_67_method_1_code 25 = .ok (.putfield 16, 3) := by decide +kernel
theorem d4_28 : decode prog_67_method_1_code 28 = .ok (.aload_n 0, 1) := by decide +kernel
theorem d4_29 : decode prog_67_method_1_code 29 = .ok (.iconst 0, 1) := by decide +kernel
theorem d4_30 : decode prog_67_method_1_code 30 = .ok (.newarray .int, 2) := by decide +kernel
theorem d4_32 : decode prog_67_method_1_code 32 = .ok (.putfield 20, 3) := by decide +kernel
theorem d4_35 : decode prog_67_method_1_code 35 = .ok (.aload_n 0, 1) := by decide +kernel
theorem d4_36 : decode prog_67_method_1_code 36 = .ok (.iconst (-1), 1) := by decide +kernel
theorem d4_37 : decode prog_67_method_1_code 37 = .ok (.putfield 24, 3) := by decide +kernel
theorem d4_40 : decode prog_67_method_1_code 40 = .ok (.return_, 1) := by decide +kernel
theorem pn_4 : plainName "com/example/strati/strati/sim/WriteBuffer" = true := by first | (simp [plainName, overriddenIn]; done) | decide +kernel
theorem pd_4 : parseMethodDescriptor "()V" = some ⟨[], none⟩ := by decide +kernel
theorem ef_4 (m : MethodId) (x0 : Addr) : entryFrame m #[(.ref x0)] 1 = mkF m 0 #[.val (.ref x0)] [] := by first | (simp [entryFrame, mkF, argsToLocals, Value.category]; done) | rfl
def own_F4 (Z : State) (x0 : Addr)  (n0 : Nat) (h0 : Heap) (v : Option Value) (h : Heap) (L : List Loc) : Prop := v = none ∧ Fr n0 L ∧ Keep h0 h [x0] ∧ ∃ (kA sA dA pA : Addr), h0.size ≤ kA ∧ h0.size ≤ sA ∧ h0.size ≤ dA ∧ h0.size ≤ pA ∧ own_W Z h n0 x0 kA sA dA pA .null (fun _ => 0) (fun _ => 0) (fun _ => 0) 0 0 0 0 0 (-1 : Int32)
set_option maxRecDepth 65536 in
set_option maxHeartbeats 40000000 in
theorem own_m4 (l : Launch) (Z : State) (a0 : Array Value) (hw : ∀ d ∈ tables_1, d.before a0 Z = true) (ws : List Jvm.Cond) (x0 : Addr)  (n0 : Nat) (h0 : Heap)  (E0 : Exa Z h0 x0 "com/example/strati/strati/sim/WriteBuffer") (g0 : n0 ≤ x0) (P0 : Fld Z h0 x0 "com/example/strati/strati/sim/WriteBuffer" "keys" "[J" .null) (P1 : Fld Z h0 x0 "com/example/strati/strati/sim/WriteBuffer" "sizes" "[J" .null) (P2 : Fld Z h0 x0 "com/example/strati/strati/sim/WriteBuffer" "deletes" "[Z" .null) (P3 : Fld Z h0 x0 "com/example/strati/strati/sim/WriteBuffer" "positions" "[I" .null) (P4 : Fld Z h0 x0 "com/example/strati/strati/sim/WriteBuffer" "count" "I" (.int (0 : Int32))) (P5 : Fld Z h0 x0 "com/example/strati/strati/sim/WriteBuffer" "firstSize" "J" (.long (0 : Int64))) (P6 : Fld Z h0 x0 "com/example/strati/strati/sim/WriteBuffer" "mixedSizes" "Z" (.int (0 : Int32))) (P7 : Fld Z h0 x0 "com/example/strati/strati/sim/WriteBuffer" "anyMarker" "Z" (.int (0 : Int32))) (P8 : Fld Z h0 x0 "com/example/strati/strati/sim/WriteBuffer" "slots" "[I" .null) (P9 : Fld Z h0 x0 "com/example/strati/strati/sim/WriteBuffer" "indexed" "I" (.int (0 : Int32))) (P10 : Fld Z h0 x0 "com/example/strati/strati/sim/WriteBuffer" "lastAdded" "I" (.int (0 : Int32))) :
    MetFree l (⟨"com/example/strati/strati/sim/WriteBuffer", "<init>", "()V"⟩ : MethodName) (head1 (Jvm.Cond.code (⟨"com/example/strati/strati/sim/WriteBuffer", "<init>", "()V"⟩ : MethodName) prog_67_method_1_code 1 none :: ws) ({ frames := 1, cells := 4, slots := 48, locals := 12 } : Room)) (fun a U => a = #[(.ref x0)] ∧ Z.Warmed39 U.vm ∧ U.heap = h0) (fun _ _ _ _ _ => True) (fun _ U o U' => ∃ v L, o = .returned v ∧ own_F4 Z x0 n0 h0 v U'.heap L ∧ FrameEnd U o U' L ({ frames := 1, cells := 4, slots := 48, locals := 12 } : Room).cells ({ frames := 1, cells := 4, slots := 48, locals := 12 } : Room).slots) := by
  refine MetFree.of_bodySF (plainFor_of_name pn_4) hisR ?_
  intro p e s m args below meth c s₁ Bd hml0 hP hK
  obtain ⟨rfl, hZ, hh⟩ := hP
  have hx := Bd.exec
  have hby := Bd.bytes
  have hml : c.maxLocals = 1 := hml0
  have hown : s.vm.findClass "com/example/strati/strati/sim/WriteBuffer" = some m.cls := findClass_of_methodNamed Bd.named
  have hnm := (name_of_methodNamed Bd.named Bd.method).1
  have X0 : Stand p l e ({ frames := 1, cells := 4, slots := 48, locals := 12 } : Room) s m #[(.ref x0)] below meth c s₁ [] 0 0 := Stand.of_body Bd
  have e0 : s₁.heap = h0 := by rw [← hh, Bd.state]; rfl
  have Z0 : n0 ≤ h0.size := Nat.le_trans g0 (Nat.le_of_lt E0.lt)
  have N0 := Fr.nil n0
  have K0 : Keep h0 h0 [x0] := Keep.refl h0 [x0]
  have hgo : own_Goes p e below s (own_F4 Z x0 n0 h0) 4 48 (s₁.setTop (mkF m 0 #[.val (.ref x0)] [])) := by
    refine own_Goes.step (fun tq kq => XS.aloadN X0.here hx rfl (hb hby d4_0) rfl rfl kq) ?_
    show own_Goes _ _ _ _ _ _ _ (s₁.setTop (mkF m 1 #[.val (.ref x0)] [(.ref x0)]))
    obtain ⟨T1, X1, e1, st1⟩ := initO X0 hx hZ hown (own_at hw 25 rfl) (own_at hw 13 rfl) (own_at hw 14 rfl) e0 (g := (mkF m 1 #[.val (.ref x0)] [(.ref x0)])) rfl (by rw [hml]; rfl) rfl (hb hby d4_1) (by decide) (W := 0) (by show 2 * 0 + _ ≤ _; exact Nat.le_of_eq rfl) (by decide)
    refine own_Goes.step st1 ?_
    show own_Goes _ _ _ _ _ _ _ (T1.setTop (mkF m 4 #[.val (.ref x0)] []))
    refine own_Goes.step (fun tq kq => XS.aloadN X1.here hx rfl (hb hby d4_4) rfl rfl kq) ?_
    show own_Goes _ _ _ _ _ _ _ (T1.setTop (mkF m 5 #[.val (.ref x0)] [(.ref x0)]))
    refine own_Goes.step (fun tq kq => XT.bipushV X1.here hx rfl (16 : Int32) (hb hby d4_5) (by decide) kq) ?_
    show own_Goes _ _ _ _ _ _ _ (T1.setTop (mkF m 7 #[.val (.ref x0)] [(.int (16 : Int32)), (.ref x0)]))
    obtain ⟨T2, h2, k2, X2, e2, E2, A2, st2⟩ := newP X1 hx hZ (own_at hw 26 rfl) e1 (g := (mkF m 7 #[.val (.ref x0)] [(.int (16 : Int32)), (.ref x0)])) rfl (hb hby d4_7) rfl (by decide) (cap := 16) (by decide) (by decide) (by decide) (by decide)
    obtain ⟨a2, g2⟩ : ∃ z, z = h0.size := ⟨_, rfl⟩
    rw [← g2] at A2 st2
    have ne3 : x0 ≠ a2 := by rw [g2]; exact Nat.ne_of_lt E0.lt
    have f4 := Jvm.RoadKit.Exa.ext E2 E0
    have f5 := Jvm.RoadKit.Fld.ext E2 P0
    have f6 := Jvm.RoadKit.Fld.ext E2 P1
    have f7 := Jvm.RoadKit.Fld.ext E2 P2
    have f8 := Jvm.RoadKit.Fld.ext E2 P3
    have f9 := Jvm.RoadKit.Fld.ext E2 P4
    have f10 := Jvm.RoadKit.Fld.ext E2 P5
    have f11 := Jvm.RoadKit.Fld.ext E2 P6
    have f12 := Jvm.RoadKit.Fld.ext E2 P7
    have f13 := Jvm.RoadKit.Fld.ext E2 P8
    have f14 := Jvm.RoadKit.Fld.ext E2 P9
    have f15 := Jvm.RoadKit.Fld.ext E2 P10
    have r2 : own_Ar Z h2 a2 .long 16 (fun uu => .long ((fun _ => (0 : Int64)) uu)) := own_Ar.new A2
    have ga2 : n0 ≤ a2 := Nat.le_trans Z0 (Nat.le_of_eq g2.symm)
    have Z2 : n0 ≤ h2.size := Nat.le_trans Z0 E2.1
    have K2 := K0.ext E2
    have Kh2 : h0.size ≤ a2 := Nat.le_trans K0.1 (Nat.le_of_eq g2.symm)
    refine own_Goes.step st2 ?_
    show own_Goes _ _ _ _ _ _ _ (T2.setTop (mkF m 9 #[.val (.ref x0)] [(.ref a2), (.ref x0)]))
    obtain ⟨T16, h16, X16, e16, W16, st16⟩ := putF X2 hx hZ hown (host := "") (Or.inl (own_at hw 27 rfl)) Via.refl e2 (v := (.ref a2)) f5 f4 (Or.inl (own_at hw 28 rfl)) (own_at hw 20 rfl) (ty := (.array .long)) (by decide) rfl rfl (g := (mkF m 9 #[.val (.ref x0)] [(.ref a2), (.ref x0)])) rfl rfl (hb hby d4_9)
    refine own_Goes.step st16 ?_
    have f17 := f4.wr W16
    have f18 := f5.same W16
    have f19 := f6.other W16 (Or.inr (slot_ne (Or.inl (own_at hw 30 rfl)) (Or.inl (own_at hw 28 rfl)) (by decide) (t := (.array .long)) (t' := (.array .long)) (by decide) (by decide)))
    have f20 := f7.other W16 (Or.inr (slot_ne (Or.inl (own_at hw 33 rfl)) (Or.inl (own_at hw 28 rfl)) (by decide) (t := (.array .boolean)) (t' := (.array .long)) (by decide) (by decide)))
    have f21 := f8.other W16 (Or.inr (slot_ne (Or.inl (own_at hw 36 rfl)) (Or.inl (own_at hw 28 rfl)) (by decide) (t := (.array .int)) (t' := (.array .long)) (by decide) (by decide)))
    have f22 := f9.other W16 (Or.inr (slot_ne (Or.inl (own_at hw 45 rfl)) (Or.inl (own_at hw 28 rfl)) (by decide) (t := .int) (t' := (.array .long)) (by decide) (by decide)))
    have f23 := f10.other W16 (Or.inr (slot_ne (Or.inl (own_at hw 52 rfl)) (Or.inl (own_at hw 28 rfl)) (by decide) (t := .long) (t' := (.array .long)) (by decide) (by decide)))
    have f24 := f11.other W16 (Or.inr (slot_ne (Or.inl (own_at hw 54 rfl)) (Or.inl (own_at hw 28 rfl)) (by decide) (t := .boolean) (t' := (.array .long)) (by decide) (by decide)))
    have f25 := f12.other W16 (Or.inr (slot_ne (Or.inl (own_at hw 56 rfl)) (Or.inl (own_at hw 28 rfl)) (by decide) (t := .boolean) (t' := (.array .long)) (by decide) (by decide)))
    have f26 := f13.other W16 (Or.inr (slot_ne (Or.inl (own_at hw 63 rfl)) (Or.inl (own_at hw 28 rfl)) (by decide) (t := (.array .int)) (t' := (.array .long)) (by decide) (by decide)))
    have f27 := f14.other W16 (Or.inr (slot_ne (Or.inl (own_at hw 74 rfl)) (Or.inl (own_at hw 28 rfl)) (by decide) (t := .int) (t' := (.array .long)) (by decide) (by decide)))
    have f28 := f15.other W16 (Or.inr (slot_ne (Or.inl (own_at hw 38 rfl)) (Or.inl (own_at hw 28 rfl)) (by decide) (t := .int) (t' := (.array .long)) (by decide) (by decide)))
    have f29 := r2.other W16 (Ne.symm ne3)
    have K30 := K2.wr W16 (Or.inl (List.mem_of_getElem? (i := 0) rfl))
    have N31 := Fr.snoc X16 N0 g0
    have Z32 : n0 ≤ h16.size := Nat.le_trans Z2 (Keep.of_wr W16).1
    show own_Goes _ _ _ _ _ _ _ (T16.setTop (mkF m 12 #[.val (.ref x0)] []))
    refine own_Goes.step (fun tq kq => XS.aloadN X16.here hx rfl (hb hby d4_12) rfl rfl kq) ?_
    show own_Goes _ _ _ _ _ _ _ (T16.setTop (mkF m 13 #[.val (.ref x0)] [(.ref x0)]))
    refine own_Goes.step (fun tq kq => XT.bipushV X16.here hx rfl (16 : Int32) (hb hby d4_13) (by decide) kq) ?_
    show own_Goes _ _ _ _ _ _ _ (T16.setTop (mkF m 15 #[.val (.ref x0)] [(.int (16 : Int32)), (.ref x0)]))
    obtain ⟨T33, h33, k33, X33, e33, E33, A33, st33⟩ := newP X16 hx hZ (own_at hw 26 rfl) e16 (g := (mkF m 15 #[.val (.ref x0)] [(.int (16 : Int32)), (.ref x0)])) rfl (hb hby d4_15) rfl (by decide) (cap := 16) (by decide) (by decide) (by decide) (by decide)
    obtain ⟨a33, g33⟩ : ∃ z, z = h16.size := ⟨_, rfl⟩
    rw [← g33] at A33 st33
    have ne34 : x0 ≠ a33 := by rw [g33]; exact Nat.ne_of_lt f17.lt
    have ne35 : a2 ≠ a33 := by rw [g33]; exact Nat.ne_of_lt f29.lt
    have f36 := Jvm.RoadKit.Exa.ext E33 f17
    have f37 := Jvm.RoadKit.Fld.ext E33 f18
    have f38 := Jvm.RoadKit.Fld.ext E33 f19
    have f39 := Jvm.RoadKit.Fld.ext E33 f20
    have f40 := Jvm.RoadKit.Fld.ext E33 f21
    have f41 := Jvm.RoadKit.Fld.ext E33 f22
    have f42 := Jvm.RoadKit.Fld.ext E33 f23
    have f43 := Jvm.RoadKit.Fld.ext E33 f24
    have f44 := Jvm.RoadKit.Fld.ext E33 f25
    have f45 := Jvm.RoadKit.Fld.ext E33 f26
    have f46 := Jvm.RoadKit.Fld.ext E33 f27
    have f47 := Jvm.RoadKit.Fld.ext E33 f28
    have f48 := f29.ext E33
    have r33 : own_Ar Z h33 a33 .long 16 (fun uu => .long ((fun _ => (0 : Int64)) uu)) := own_Ar.new A33
    have ga33 : n0 ≤ a33 := Nat.le_trans Z32 (Nat.le_of_eq g33.symm)
    have Z33 : n0 ≤ h33.size := Nat.le_trans Z32 E33.1
    have K33 := K30.ext E33
    have Kh33 : h0.size ≤ a33 := Nat.le_trans K30.1 (Nat.le_of_eq g33.symm)
    refine own_Goes.step st33 ?_
    show own_Goes _ _ _ _ _ _ _ (T33.setTop (mkF m 17 #[.val (.ref x0)] [(.ref a33), (.ref x0)]))
    obtain ⟨T49, h49, X49, e49, W49, st49⟩ := putF X33 hx hZ hown (host := "") (Or.inl (own_at hw 29 rfl)) Via.refl e33 (v := (.ref a33)) f38 f36 (Or.inl (own_at hw 30 rfl)) (own_at hw 20 rfl) (ty := (.array .long)) (by decide) rfl rfl (g := (mkF m 17 #[.val (.ref x0)] [(.ref a33), (.ref x0)])) rfl rfl (hb hby d4_17)
    refine own_Goes.step st49 ?_
    have f50 := f36.wr W49
    have f51 := f37.other W49 (Or.inr (slot_ne (Or.inl (own_at hw 28 rfl)) (Or.inl (own_at hw 30 rfl)) (by decide) (t := (.array .long)) (t' := (.array .long)) (by decide) (by decide)))
    have f52 := f38.same W49
    have f53 := f39.other W49 (Or.inr (slot_ne (Or.inl (own_at hw 33 rfl)) (Or.inl (own_at hw 30 rfl)) (by decide) (t := (.array .boolean)) (t' := (.array .long)) (by decide) (by decide)))
    have f54 := f40.other W49 (Or.inr (slot_ne (Or.inl (own_at hw 36 rfl)) (Or.inl (own_at hw 30 rfl)) (by decide) (t := (.array .int)) (t' := (.array .long)) (by decide) (by decide)))
    have f55 := f41.other W49 (Or.inr (slot_ne (Or.inl (own_at hw 45 rfl)) (Or.inl (own_at hw 30 rfl)) (by decide) (t := .int) (t' := (.array .long)) (by decide) (by decide)))
    have f56 := f42.other W49 (Or.inr (slot_ne (Or.inl (own_at hw 52 rfl)) (Or.inl (own_at hw 30 rfl)) (by decide) (t := .long) (t' := (.array .long)) (by decide) (by decide)))
    have f57 := f43.other W49 (Or.inr (slot_ne (Or.inl (own_at hw 54 rfl)) (Or.inl (own_at hw 30 rfl)) (by decide) (t := .boolean) (t' := (.array .long)) (by decide) (by decide)))
    have f58 := f44.other W49 (Or.inr (slot_ne (Or.inl (own_at hw 56 rfl)) (Or.inl (own_at hw 30 rfl)) (by decide) (t := .boolean) (t' := (.array .long)) (by decide) (by decide)))
    have f59 := f45.other W49 (Or.inr (slot_ne (Or.inl (own_at hw 63 rfl)) (Or.inl (own_at hw 30 rfl)) (by decide) (t := (.array .int)) (t' := (.array .long)) (by decide) (by decide)))
    have f60 := f46.other W49 (Or.inr (slot_ne (Or.inl (own_at hw 74 rfl)) (Or.inl (own_at hw 30 rfl)) (by decide) (t := .int) (t' := (.array .long)) (by decide) (by decide)))
    have f61 := f47.other W49 (Or.inr (slot_ne (Or.inl (own_at hw 38 rfl)) (Or.inl (own_at hw 30 rfl)) (by decide) (t := .int) (t' := (.array .long)) (by decide) (by decide)))
    have f62 := f48.other W49 (Ne.symm ne3)
    have f63 := r33.other W49 (Ne.symm ne34)
    have K64 := K33.wr W49 (Or.inl (List.mem_of_getElem? (i := 0) rfl))
    have N65 := Fr.snoc X49 N31 g0
    have Z66 : n0 ≤ h49.size := Nat.le_trans Z33 (Keep.of_wr W49).1
    show own_Goes _ _ _ _ _ _ _ (T49.setTop (mkF m 20 #[.val (.ref x0)] []))
    refine own_Goes.step (fun tq kq => XS.aloadN X49.here hx rfl (hb hby d4_20) rfl rfl kq) ?_
    show own_Goes _ _ _ _ _ _ _ (T49.setTop (mkF m 21 #[.val (.ref x0)] [(.ref x0)]))
    refine own_Goes.step (fun tq kq => XT.bipushV X49.here hx rfl (16 : Int32) (hb hby d4_21) (by decide) kq) ?_
    show own_Goes _ _ _ _ _ _ _ (T49.setTop (mkF m 23 #[.val (.ref x0)] [(.int (16 : Int32)), (.ref x0)]))
    obtain ⟨T67, h67, k67, X67, e67, E67, A67, st67⟩ := newP X49 hx hZ (own_at hw 31 rfl) e49 (g := (mkF m 23 #[.val (.ref x0)] [(.int (16 : Int32)), (.ref x0)])) rfl (hb hby d4_23) rfl (by decide) (cap := 16) (by decide) (by decide) (by decide) (by decide)
    obtain ⟨a67, g67⟩ : ∃ z, z = h49.size := ⟨_, rfl⟩
    rw [← g67] at A67 st67
    have ne68 : x0 ≠ a67 := by rw [g67]; exact Nat.ne_of_lt f50.lt
    have ne69 : a2 ≠ a67 := by rw [g67]; exact Nat.ne_of_lt f62.lt
    have ne70 : a33 ≠ a67 := by rw [g67]; exact Nat.ne_of_lt f63.lt
    have f71 := Jvm.RoadKit.Exa.ext E67 f50
    have f72 := Jvm.RoadKit.Fld.ext E67 f51
    have f73 := Jvm.RoadKit.Fld.ext E67 f52
    have f74 := Jvm.RoadKit.Fld.ext E67 f53
    have f75 := Jvm.RoadKit.Fld.ext E67 f54
    have f76 := Jvm.RoadKit.Fld.ext E67 f55
    have f77 := Jvm.RoadKit.Fld.ext E67 f56
    have f78 := Jvm.RoadKit.Fld.ext E67 f57
    have f79 := Jvm.RoadKit.Fld.ext E67 f58
    have f80 := Jvm.RoadKit.Fld.ext E67 f59
    have f81 := Jvm.RoadKit.Fld.ext E67 f60
    have f82 := Jvm.RoadKit.Fld.ext E67 f61
    have f83 := f62.ext E67
    have f84 := f63.ext E67
    have r67 : own_Ar Z h67 a67 .boolean 16 (fun uu => .int ((fun _ => (0 : Int32)) uu)) := own_Ar.new A67
    have ga67 : n0 ≤ a67 := Nat.le_trans Z66 (Nat.le_of_eq g67.symm)
    have Z67 : n0 ≤ h67.size := Nat.le_trans Z66 E67.1
    have K67 := K64.ext E67
    have Kh67 : h0.size ≤ a67 := Nat.le_trans K64.1 (Nat.le_of_eq g67.symm)
    refine own_Goes.step st67 ?_
    show own_Goes _ _ _ _ _ _ _ (T67.setTop (mkF m 25 #[.val (.ref x0)] [(.ref a67), (.ref x0)]))
    obtain ⟨T85, h85, X85, e85, W85, st85⟩ := putF X67 hx hZ hown (host := "") (Or.inl (own_at hw 32 rfl)) Via.refl e67 (v := (.ref a67)) f74 f71 (Or.inl (own_at hw 33 rfl)) (own_at hw 20 rfl) (ty := (.array .boolean)) (by decide) rfl rfl (g := (mkF m 25 #[.val (.ref x0)] [(.ref a67), (.ref x0)])) rfl rfl (hb hby d4_25)
    refine own_Goes.step st85 ?_
    have f86 := f71.wr W85
    have f87 := f72.other W85 (Or.inr (slot_ne (Or.inl (own_at hw 28 rfl)) (Or.inl (own_at hw 33 rfl)) (by decide) (t := (.array .long)) (t' := (.array .boolean)) (by decide) (by decide)))
    have f88 := f73.other W85 (Or.inr (slot_ne (Or.inl (own_at hw 30 rfl)) (Or.inl (own_at hw 33 rfl)) (by decide) (t := (.array .long)) (t' := (.array .boolean)) (by decide) (by decide)))
    have f89 := f74.same W85
    have f90 := f75.other W85 (Or.inr (slot_ne (Or.inl (own_at hw 36 rfl)) (Or.inl (own_at hw 33 rfl)) (by decide) (t := (.array .int)) (t' := (.array .boolean)) (by decide) (by decide)))
    have f91 := f76.other W85 (Or.inr (slot_ne (Or.inl (own_at hw 45 rfl)) (Or.inl (own_at hw 33 rfl)) (by decide) (t := .int) (t' := (.array .boolean)) (by decide) (by decide)))
    have f92 := f77.other W85 (Or.inr (slot_ne (Or.inl (own_at hw 52 rfl)) (Or.inl (own_at hw 33 rfl)) (by decide) (t := .long) (t' := (.array .boolean)) (by decide) (by decide)))
    have f93 := f78.other W85 (Or.inr (slot_ne (Or.inl (own_at hw 54 rfl)) (Or.inl (own_at hw 33 rfl)) (by decide) (t := .boolean) (t' := (.array .boolean)) (by decide) (by decide)))
    have f94 := f79.other W85 (Or.inr (slot_ne (Or.inl (own_at hw 56 rfl)) (Or.inl (own_at hw 33 rfl)) (by decide) (t := .boolean) (t' := (.array .boolean)) (by decide) (by decide)))
    have f95 := f80.other W85 (Or.inr (slot_ne (Or.inl (own_at hw 63 rfl)) (Or.inl (own_at hw 33 rfl)) (by decide) (t := (.array .int)) (t' := (.array .boolean)) (by decide) (by decide)))
    have f96 := f81.other W85 (Or.inr (slot_ne (Or.inl (own_at hw 74 rfl)) (Or.inl (own_at hw 33 rfl)) (by decide) (t := .int) (t' := (.array .boolean)) (by decide) (by decide)))
    have f97 := f82.other W85 (Or.inr (slot_ne (Or.inl (own_at hw 38 rfl)) (Or.inl (own_at hw 33 rfl)) (by decide) (t := .int) (t' := (.array .boolean)) (by decide) (by decide)))
    have f98 := f83.other W85 (Ne.symm ne3)
    have f99 := f84.other W85 (Ne.symm ne34)
    have f100 := r67.other W85 (Ne.symm ne68)
    have K101 := K67.wr W85 (Or.inl (List.mem_of_getElem? (i := 0) rfl))
    have N102 := Fr.snoc X85 N65 g0
    have Z103 : n0 ≤ h85.size := Nat.le_trans Z67 (Keep.of_wr W85).1
    show own_Goes _ _ _ _ _ _ _ (T85.setTop (mkF m 28 #[.val (.ref x0)] []))
    refine own_Goes.step (fun tq kq => XS.aloadN X85.here hx rfl (hb hby d4_28) rfl rfl kq) ?_
    show own_Goes _ _ _ _ _ _ _ (T85.setTop (mkF m 29 #[.val (.ref x0)] [(.ref x0)]))
    refine own_Goes.step (fun tq kq => XT.iconstV X85.here hx rfl (0 : Int32) (hb hby d4_29) (by decide) kq) ?_
    show own_Goes _ _ _ _ _ _ _ (T85.setTop (mkF m 30 #[.val (.ref x0)] [(.int (0 : Int32)), (.ref x0)]))
    obtain ⟨T104, h104, k104, X104, e104, E104, A104, st104⟩ := newP X85 hx hZ (own_at hw 34 rfl) e85 (g := (mkF m 30 #[.val (.ref x0)] [(.int (0 : Int32)), (.ref x0)])) rfl (hb hby d4_30) rfl (by decide) (cap := 0) (by decide) (by decide) (by decide) (by decide)
    obtain ⟨a104, g104⟩ : ∃ z, z = h85.size := ⟨_, rfl⟩
    rw [← g104] at A104 st104
    have ne105 : x0 ≠ a104 := by rw [g104]; exact Nat.ne_of_lt f86.lt
    have ne106 : a2 ≠ a104 := by rw [g104]; exact Nat.ne_of_lt f98.lt
    have ne107 : a33 ≠ a104 := by rw [g104]; exact Nat.ne_of_lt f99.lt
    have ne108 : a67 ≠ a104 := by rw [g104]; exact Nat.ne_of_lt f100.lt
    have f109 := Jvm.RoadKit.Exa.ext E104 f86
    have f110 := Jvm.RoadKit.Fld.ext E104 f87
    have f111 := Jvm.RoadKit.Fld.ext E104 f88
    have f112 := Jvm.RoadKit.Fld.ext E104 f89
    have f113 := Jvm.RoadKit.Fld.ext E104 f90
    have f114 := Jvm.RoadKit.Fld.ext E104 f91
    have f115 := Jvm.RoadKit.Fld.ext E104 f92
    have f116 := Jvm.RoadKit.Fld.ext E104 f93
    have f117 := Jvm.RoadKit.Fld.ext E104 f94
    have f118 := Jvm.RoadKit.Fld.ext E104 f95
    have f119 := Jvm.RoadKit.Fld.ext E104 f96
    have f120 := Jvm.RoadKit.Fld.ext E104 f97
    have f121 := f98.ext E104
    have f122 := f99.ext E104
    have f123 := f100.ext E104
    have r104 : own_Ar Z h104 a104 .int 0 (fun uu => .int ((fun _ => (0 : Int32)) uu)) := own_Ar.new A104
    have ga104 : n0 ≤ a104 := Nat.le_trans Z103 (Nat.le_of_eq g104.symm)
    have Z104 : n0 ≤ h104.size := Nat.le_trans Z103 E104.1
    have K104 := K101.ext E104
    have Kh104 : h0.size ≤ a104 := Nat.le_trans K101.1 (Nat.le_of_eq g104.symm)
    refine own_Goes.step st104 ?_
    show own_Goes _ _ _ _ _ _ _ (T104.setTop (mkF m 32 #[.val (.ref x0)] [(.ref a104), (.ref x0)]))
    obtain ⟨T124, h124, X124, e124, W124, st124⟩ := putF X104 hx hZ hown (host := "") (Or.inl (own_at hw 35 rfl)) Via.refl e104 (v := (.ref a104)) f113 f109 (Or.inl (own_at hw 36 rfl)) (own_at hw 20 rfl) (ty := (.array .int)) (by decide) rfl rfl (g := (mkF m 32 #[.val (.ref x0)] [(.ref a104), (.ref x0)])) rfl rfl (hb hby d4_32)
    refine own_Goes.step st124 ?_
    have f125 := f109.wr W124
    have f126 := f110.other W124 (Or.inr (slot_ne (Or.inl (own_at hw 28 rfl)) (Or.inl (own_at hw 36 rfl)) (by decide) (t := (.array .long)) (t' := (.array .int)) (by decide) (by decide)))
    have f127 := f111.other W124 (Or.inr (slot_ne (Or.inl (own_at hw 30 rfl)) (Or.inl (own_at hw 36 rfl)) (by decide) (t := (.array .long)) (t' := (.array .int)) (by decide) (by decide)))
    have f128 := f112.other W124 (Or.inr (slot_ne (Or.inl (own_at hw 33 rfl)) (Or.inl (own_at hw 36 rfl)) (by decide) (t := (.array .boolean)) (t' := (.array .int)) (by decide) (by decide)))
    have f129 := f113.same W124
    have f130 := f114.other W124 (Or.inr (slot_ne (Or.inl (own_at hw 45 rfl)) (Or.inl (own_at hw 36 rfl)) (by decide) (t := .int) (t' := (.array .int)) (by decide) (by decide)))
    have f131 := f115.other W124 (Or.inr (slot_ne (Or.inl (own_at hw 52 rfl)) (Or.inl (own_at hw 36 rfl)) (by decide) (t := .long) (t' := (.array .int)) (by decide) (by decide)))
    have f132 := f116.other W124 (Or.inr (slot_ne (Or.inl (own_at hw 54 rfl)) (Or.inl (own_at hw 36 rfl)) (by decide) (t := .boolean) (t' := (.array .int)) (by decide) (by decide)))
    have f133 := f117.other W124 (Or.inr (slot_ne (Or.inl (own_at hw 56 rfl)) (Or.inl (own_at hw 36 rfl)) (by decide) (t := .boolean) (t' := (.array .int)) (by decide) (by decide)))
    have f134 := f118.other W124 (Or.inr (slot_ne (Or.inl (own_at hw 63 rfl)) (Or.inl (own_at hw 36 rfl)) (by decide) (t := (.array .int)) (t' := (.array .int)) (by decide) (by decide)))
    have f135 := f119.other W124 (Or.inr (slot_ne (Or.inl (own_at hw 74 rfl)) (Or.inl (own_at hw 36 rfl)) (by decide) (t := .int) (t' := (.array .int)) (by decide) (by decide)))
    have f136 := f120.other W124 (Or.inr (slot_ne (Or.inl (own_at hw 38 rfl)) (Or.inl (own_at hw 36 rfl)) (by decide) (t := .int) (t' := (.array .int)) (by decide) (by decide)))
    have f137 := f121.other W124 (Ne.symm ne3)
    have f138 := f122.other W124 (Ne.symm ne34)
    have f139 := f123.other W124 (Ne.symm ne68)
    have f140 := r104.other W124 (Ne.symm ne105)
    have K141 := K104.wr W124 (Or.inl (List.mem_of_getElem? (i := 0) rfl))
    have N142 := Fr.snoc X124 N102 g0
    have Z143 : n0 ≤ h124.size := Nat.le_trans Z104 (Keep.of_wr W124).1
    show own_Goes _ _ _ _ _ _ _ (T124.setTop (mkF m 35 #[.val (.ref x0)] []))
    refine own_Goes.step (fun tq kq => XS.aloadN X124.here hx rfl (hb hby d4_35) rfl rfl kq) ?_
    show own_Goes _ _ _ _ _ _ _ (T124.setTop (mkF m 36 #[.val (.ref x0)] [(.ref x0)]))
    refine own_Goes.step (fun tq kq => XT.iconstV X124.here hx rfl (-1 : Int32) (hb hby d4_36) (by decide) kq) ?_
    show own_Goes _ _ _ _ _ _ _ (T124.setTop (mkF m 37 #[.val (.ref x0)] [(.int (-1 : Int32)), (.ref x0)]))
    obtain ⟨T144, h144, X144, e144, W144, st144⟩ := putF X124 hx hZ hown (host := "") (Or.inl (own_at hw 37 rfl)) Via.refl e124 (v := (.int (-1 : Int32))) f136 f125 (Or.inl (own_at hw 38 rfl)) (own_at hw 20 rfl) (ty := .int) (by decide) rfl rfl (g := (mkF m 37 #[.val (.ref x0)] [(.int (-1 : Int32)), (.ref x0)])) rfl rfl (hb hby d4_37)
    refine own_Goes.step st144 ?_
    have f145 := f125.wr W144
    have f146 := f126.other W144 (Or.inr (slot_ne (Or.inl (own_at hw 28 rfl)) (Or.inl (own_at hw 38 rfl)) (by decide) (t := (.array .long)) (t' := .int) (by decide) (by decide)))
    have f147 := f127.other W144 (Or.inr (slot_ne (Or.inl (own_at hw 30 rfl)) (Or.inl (own_at hw 38 rfl)) (by decide) (t := (.array .long)) (t' := .int) (by decide) (by decide)))
    have f148 := f128.other W144 (Or.inr (slot_ne (Or.inl (own_at hw 33 rfl)) (Or.inl (own_at hw 38 rfl)) (by decide) (t := (.array .boolean)) (t' := .int) (by decide) (by decide)))
    have f149 := f129.other W144 (Or.inr (slot_ne (Or.inl (own_at hw 36 rfl)) (Or.inl (own_at hw 38 rfl)) (by decide) (t := (.array .int)) (t' := .int) (by decide) (by decide)))
    have f150 := f130.other W144 (Or.inr (slot_ne (Or.inl (own_at hw 45 rfl)) (Or.inl (own_at hw 38 rfl)) (by decide) (t := .int) (t' := .int) (by decide) (by decide)))
    have f151 := f131.other W144 (Or.inr (slot_ne (Or.inl (own_at hw 52 rfl)) (Or.inl (own_at hw 38 rfl)) (by decide) (t := .long) (t' := .int) (by decide) (by decide)))
    have f152 := f132.other W144 (Or.inr (slot_ne (Or.inl (own_at hw 54 rfl)) (Or.inl (own_at hw 38 rfl)) (by decide) (t := .boolean) (t' := .int) (by decide) (by decide)))
    have f153 := f133.other W144 (Or.inr (slot_ne (Or.inl (own_at hw 56 rfl)) (Or.inl (own_at hw 38 rfl)) (by decide) (t := .boolean) (t' := .int) (by decide) (by decide)))
    have f154 := f134.other W144 (Or.inr (slot_ne (Or.inl (own_at hw 63 rfl)) (Or.inl (own_at hw 38 rfl)) (by decide) (t := (.array .int)) (t' := .int) (by decide) (by decide)))
    have f155 := f135.other W144 (Or.inr (slot_ne (Or.inl (own_at hw 74 rfl)) (Or.inl (own_at hw 38 rfl)) (by decide) (t := .int) (t' := .int) (by decide) (by decide)))
    have f156 := f136.same W144
    have f157 := f137.other W144 (Ne.symm ne3)
    have f158 := f138.other W144 (Ne.symm ne34)
    have f159 := f139.other W144 (Ne.symm ne68)
    have f160 := f140.other W144 (Ne.symm ne105)
    have K161 := K141.wr W144 (Or.inl (List.mem_of_getElem? (i := 0) rfl))
    have N162 := Fr.snoc X144 N142 g0
    have Z163 : n0 ≤ h144.size := Nat.le_trans Z143 (Keep.of_wr W144).1
    show own_Goes _ _ _ _ _ _ _ (T144.setTop (mkF m 40 #[.val (.ref x0)] []))
    refine own_endV X144 hx Bd.notSynchronized Bd.returns (hb hby d4_40) ?_ (by decide) (by decide)
    show own_F4 Z x0 n0 h0 _ T144.heap _
    rw [e144]
    exact ⟨rfl, N162, K161, a2, a33, a67, a104, Kh2, Kh33, Kh67, Kh104, ⟨f145, f146, f147, f148, f149, f150, f151, f152, f153, f154, f155, f156, f157, f158, f159, f160, ne3, ne34, ne68, ne105, ne35, ne69, ne106, ne70, ne107, ne108, g0, ga2, ga33, ga67, Or.inl rfl, Or.inl rfl⟩⟩
  obtain ⟨t2, o2, q1, q2, q3, q4⟩ := hgo
  exact ⟨t2, o2, castTop (ef_4 m x0) q1, q2, q3, q4⟩
theorem own_nin4 {e a b c d : Addr} (h1 : e ≠ a) (h2 : e ≠ b) (h3 : e ≠ c) (h4 : e ≠ d) : e ∉ [a, b, c, d] := fun q => by
  simp only [List.mem_cons, List.not_mem_nil, or_false] at q
  rcases q with q | q | q | q
  · exact h1 q
  · exact h2 q
  · exact h3 q
  · exact h4 q
theorem own_hit {K : Nat → Int64} {n : Nat} {key : Int64} (h : K n = key) : own_bi (own_mem K (n + 1) key) = (1 : Int32) := by
  rw [← h, own_mem_of K (n + 1) n (Nat.lt_succ_self n)]
  rfl
theorem d15_0 : decode method_2_code 0 = .ok (.iload 6, 2) := by decide +kernel
theorem d15_2 : decode method_2_code 2 = .ok (.iconst 1, 1) := by decide +kernel
theorem d15_3 : decode method_2_code 3 = .ok (.if_icmp .lt 9, 3) := by decide +kernel
theorem d15_6 : decode method_2_code 6 = .ok (.lload_n 0, 1) := by decide +kernel
theorem d15_7 : decode method_2_code 7 = .ok (.lload_n 2, 1) := by decide +kernel
theorem d15_8 : decode method_2_code 8 = .ok (.lcmp, 1) := by decide +kernel
theorem d15_9 : decode method_2_code 9 = .ok (.ifCond .eq 16, 3) := by decide +kernel
theorem d15_12 : decode method_2_code 12 = .ok (.iload 6, 2) := by decide +kernel
theorem d15_14 : decode method_2_code 14 = .ok (.iconst 2, 1) := by decide +kernel
theorem d15_15 : decode method_2_code 15 = .ok (.if_icmp .lt 14, 3) := by decide +kernel
theorem d15_18 : decode method_2_code 18 = .ok (.lload_n 0, 1) := by decide +kernel
theorem d15_19 : decode method_2_code 19 = .ok (.lload 4, 2) := by decide +kernel
theorem d15_21 : decode method_2_code 21 = .ok (.lcmp, 1) := by decide +kernel
theorem d15_22 : decode method_2_code 22 = .ok (.ifCond .ne 7, 3) := by decide +kernel
theorem d15_25 : decode method_2_code 25 = .ok (.iconst 1, 1) := by decide +kernel
theorem d15_26 : decode method_2_code 26 = .ok (.goto 4, 3) := by decide +kernel
theorem d15_29 : decode method_2_code 29 = .ok (.iconst 0, 1) := by decide +kernel
theorem d15_30 : decode method_2_code 30 = .ok (.ireturn, 1) := by decide +kernel
theorem pn_15 : plainName "com/example/strati/strati/sim/WriteBufferTakeBackLastPutPinLaw" = true := by first | (simp [plainName, overriddenIn]; done) | decide +kernel
theorem pd_15 : parseMethodDescriptor "(JJJI)Z" = some ⟨[.long, .long, .long, .int], (some .boolean)⟩ := by decide +kernel
theorem ef_15 (m : MethodId) (x0 : Int64) (x1 : Int64) (x2 : Int64) (x3 : Int32) : entryFrame m #[(.long x0), (.long x1), (.long x2), (.int x3)] 7 = mkF m 0 #[.val (.long x0), .second, .val (.long x1), .second, .val (.long x2), .second, .val (.int x3)] [] := by first | (simp [entryFrame, mkF, argsToLocals, Value.category]; done) | rfl
def own_f15_at29 (x0 : Int64) (x1 : Int64) (x2 : Int64) (x3 : Int32) : Int32 := (0 : Int32)
def own_f15_at12 (x0 : Int64) (x1 : Int64) (x2 : Int64) (x3 : Int32) : Int32 := (if x3 < (2 : Int32) then (own_f15_at29 x0 x1 x2 x3) else (if x0 = x2 then (1 : Int32) else (own_f15_at29 x0 x1 x2 x3)))
def own_f15 (x0 : Int64) (x1 : Int64) (x2 : Int64) (x3 : Int32) : Int32 := (if x3 < (1 : Int32) then (own_f15_at12 x0 x1 x2 x3) else (if x0 = x1 then (1 : Int32) else (own_f15_at12 x0 x1 x2 x3)))
def own_F15 (Z : State) (x0 : Int64) (x1 : Int64) (x2 : Int64) (x3 : Int32)  (h0 : Heap) (v : Option Value) (h : Heap) (L : List Loc) : Prop := v = some (.int (own_f15 x0 x1 x2 x3)) ∧ L = [] ∧ h = h0
set_option maxRecDepth 65536 in
set_option maxHeartbeats 40000000 in
theorem own_m15 (l : Launch) (Z : State) (a0 : Array Value) (hw : ∀ d ∈ tables_1, d.before a0 Z = true) (ws : List Jvm.Cond) (x0 : Int64) (x1 : Int64) (x2 : Int64) (x3 : Int32)  (h0 : Heap)   :
    MetFree l (⟨"com/example/strati/strati/sim/WriteBufferTakeBackLastPutPinLaw", "held", "(JJJI)Z"⟩ : MethodName) (head1 (Jvm.Cond.code (⟨"com/example/strati/strati/sim/WriteBufferTakeBackLastPutPinLaw", "held", "(JJJI)Z"⟩ : MethodName) method_2_code 7 (some .boolean) :: ws) ({ frames := 0, cells := 0, slots := 0, locals := 0 } : Room)) (fun a U => a = #[(.long x0), (.long x1), (.long x2), (.int x3)] ∧ Z.Warmed39 U.vm ∧ U.heap = h0) (fun _ _ _ _ _ => True) (fun _ U o U' => ∃ v L, o = .returned v ∧ own_F15 Z x0 x1 x2 x3 h0 v U'.heap L ∧ FrameEnd U o U' L ({ frames := 0, cells := 0, slots := 0, locals := 0 } : Room).cells ({ frames := 0, cells := 0, slots := 0, locals := 0 } : Room).slots) := by
  refine MetFree.of_bodySF (plainFor_of_name pn_15) hisR ?_
  intro p e s m args below meth c s₁ Bd hml0 hP hK
  obtain ⟨rfl, hZ, hh⟩ := hP
  have hx := Bd.exec
  have hby := Bd.bytes
  have hml : c.maxLocals = 7 := hml0
  have hown : s.vm.findClass "com/example/strati/strati/sim/WriteBufferTakeBackLastPutPinLaw" = some m.cls := findClass_of_methodNamed Bd.named
  have hnm := (name_of_methodNamed Bd.named Bd.method).1
  have X0 : Stand p l e ({ frames := 0, cells := 0, slots := 0, locals := 0 } : Room) s m #[(.long x0), (.long x1), (.long x2), (.int x3)] below meth c s₁ [] 0 0 := Stand.of_body Bd
  have e0 : s₁.heap = h0 := by rw [← hh, Bd.state]; rfl
  have hgo : own_Goes p e below s (own_F15 Z x0 x1 x2 x3 h0) 0 0 (s₁.setTop (mkF m 0 #[.val (.long x0), .second, .val (.long x1), .second, .val (.long x2), .second, .val (.int x3)] [])) := by
    have J1029 : own_f15 x0 x1 x2 x3 = own_f15_at29 x0 x1 x2 x3 → own_Goes p e below s (own_F15 Z x0 x1 x2 x3 h0) 0 0 (s₁.setTop (mkF m 29 #[.val (.long x0), .second, .val (.long x1), .second, .val (.long x2), .second, .val (.int x3)] [])) := by
      intro hj29
      refine own_Goes.step (fun tq kq => XT.iconstV X0.here hx rfl (0 : Int32) (hb hby d15_29) (by decide) kq) ?_
      show own_Goes _ _ _ _ _ _ _ (s₁.setTop (mkF m 30 #[.val (.long x0), .second, .val (.long x1), .second, .val (.long x2), .second, .val (.int x3)] [(.int (0 : Int32))]))
      exact own_endN X0 hx Bd.notSynchronized (t := .boolean) Bd.returns (by simp) (hb hby d15_30) ⟨(congrArg (fun z => some (Value.int z)) (show (0 : Int32) = own_f15 x0 x1 x2 x3 from by rw [hj29]; simp only [own_f15_at29])), rfl, e0⟩ (by decide) (by decide)
    have J1012 : own_f15 x0 x1 x2 x3 = own_f15_at12 x0 x1 x2 x3 → own_Goes p e below s (own_F15 Z x0 x1 x2 x3 h0) 0 0 (s₁.setTop (mkF m 12 #[.val (.long x0), .second, .val (.long x1), .second, .val (.long x2), .second, .val (.int x3)] [])) := by
      intro hj12
      refine own_Goes.step (fun tq kq => XS.iload X0.here hx rfl (hb hby d15_12) rfl kq) ?_
      show own_Goes _ _ _ _ _ _ _ (s₁.setTop (mkF m 14 #[.val (.long x0), .second, .val (.long x1), .second, .val (.long x2), .second, .val (.int x3)] [(.int x3)]))
      refine own_Goes.step (fun tq kq => XT.iconstV X0.here hx rfl (2 : Int32) (hb hby d15_14) (by decide) kq) ?_
      show own_Goes _ _ _ _ _ _ _ (s₁.setTop (mkF m 15 #[.val (.long x0), .second, .val (.long x1), .second, .val (.long x2), .second, .val (.int x3)] [(.int (2 : Int32)), (.int x3)]))
      by_cases hc1 : x3 < (2 : Int32)
      · refine own_Goes.step (fun tq kq => XS.icmpYes X0.here hx rfl (pc0 := 15) (pc' := 29) rfl (hb hby d15_15) rfl (XT.ii_lt_t hc1) (by decide) (by decide) kq) ?_
        show own_Goes _ _ _ _ _ _ _ (s₁.setTop (mkF m 29 #[.val (.long x0), .second, .val (.long x1), .second, .val (.long x2), .second, .val (.int x3)] []))
        exact J1029 (by rw [hj12]; simp only [own_f15_at12, if_pos hc1])
      · refine own_Goes.step (fun tq kq => XS.icmpNo X0.here hx rfl (hb hby d15_15) rfl (XT.ii_lt_f hc1) kq) ?_
        show own_Goes _ _ _ _ _ _ _ (s₁.setTop (mkF m 18 #[.val (.long x0), .second, .val (.long x1), .second, .val (.long x2), .second, .val (.int x3)] []))
        refine own_Goes.step (fun tq kq => XT.lloadN X0.here hx rfl (hb hby d15_18) rfl kq) ?_
        show own_Goes _ _ _ _ _ _ _ (s₁.setTop (mkF m 19 #[.val (.long x0), .second, .val (.long x1), .second, .val (.long x2), .second, .val (.int x3)] [(.long x0)]))
        refine own_Goes.step (fun tq kq => XT.lload X0.here hx rfl (hb hby d15_19) rfl kq) ?_
        show own_Goes _ _ _ _ _ _ _ (s₁.setTop (mkF m 21 #[.val (.long x0), .second, .val (.long x1), .second, .val (.long x2), .second, .val (.int x3)] [(.long x2), (.long x0)]))
        refine own_Goes.step (fun tq kq => XT.lcmp X0.here hx rfl (hb hby d15_21) rfl kq) ?_
        show own_Goes _ _ _ _ _ _ _ (s₁.setTop (mkF m 22 #[.val (.long x0), .second, .val (.long x1), .second, .val (.long x2), .second, .val (.int x3)] [(.int (XT.cmpL x0 x2))]))
        by_cases hc2 : x0 = x2
        · refine own_Goes.step (fun tq kq => XS.ifNo X0.here hx rfl (hb hby d15_22) rfl (XT.ll_ne_f hc2) kq) ?_
          show own_Goes _ _ _ _ _ _ _ (s₁.setTop (mkF m 25 #[.val (.long x0), .second, .val (.long x1), .second, .val (.long x2), .second, .val (.int x3)] []))
          refine own_Goes.step (fun tq kq => XT.iconstV X0.here hx rfl (1 : Int32) (hb hby d15_25) (by decide) kq) ?_
          show own_Goes _ _ _ _ _ _ _ (s₁.setTop (mkF m 26 #[.val (.long x0), .second, .val (.long x1), .second, .val (.long x2), .second, .val (.int x3)] [(.int (1 : Int32))]))
          refine own_Goes.step (fun tq kq => XS.goto X0.here hx rfl (pc0 := 26) (pc' := 30) rfl (hb hby d15_26) (by decide) (by decide) kq) ?_
          show own_Goes _ _ _ _ _ _ _ (s₁.setTop (mkF m 30 #[.val (.long x0), .second, .val (.long x1), .second, .val (.long x2), .second, .val (.int x3)] [(.int (1 : Int32))]))
          exact own_endN X0 hx Bd.notSynchronized (t := .boolean) Bd.returns (by simp) (hb hby d15_30) ⟨(congrArg (fun z => some (Value.int z)) (show (1 : Int32) = own_f15 x0 x1 x2 x3 from by rw [hj12]; simp only [own_f15_at12, if_neg hc1, if_pos hc2])), rfl, e0⟩ (by decide) (by decide)
        · refine own_Goes.step (fun tq kq => XS.ifYes X0.here hx rfl (pc0 := 22) (pc' := 29) rfl (hb hby d15_22) rfl (XT.ll_ne_t hc2) (by decide) (by decide) kq) ?_
          show own_Goes _ _ _ _ _ _ _ (s₁.setTop (mkF m 29 #[.val (.long x0), .second, .val (.long x1), .second, .val (.long x2), .second, .val (.int x3)] []))
          exact J1029 (by rw [hj12]; simp only [own_f15_at12, if_neg hc1, if_neg hc2])
    refine own_Goes.step (fun tq kq => XS.iload X0.here hx rfl (hb hby d15_0) rfl kq) ?_
    show own_Goes _ _ _ _ _ _ _ (s₁.setTop (mkF m 2 #[.val (.long x0), .second, .val (.long x1), .second, .val (.long x2), .second, .val (.int x3)] [(.int x3)]))
    refine own_Goes.step (fun tq kq => XT.iconstV X0.here hx rfl (1 : Int32) (hb hby d15_2) (by decide) kq) ?_
    show own_Goes _ _ _ _ _ _ _ (s₁.setTop (mkF m 3 #[.val (.long x0), .second, .val (.long x1), .second, .val (.long x2), .second, .val (.int x3)] [(.int (1 : Int32)), (.int x3)]))
    by_cases hc3 : x3 < (1 : Int32)
    · refine own_Goes.step (fun tq kq => XS.icmpYes X0.here hx rfl (pc0 := 3) (pc' := 12) rfl (hb hby d15_3) rfl (XT.ii_lt_t hc3) (by decide) (by decide) kq) ?_
      show own_Goes _ _ _ _ _ _ _ (s₁.setTop (mkF m 12 #[.val (.long x0), .second, .val (.long x1), .second, .val (.long x2), .second, .val (.int x3)] []))
      exact J1012 (by simp only [own_f15, if_pos hc3])
    · refine own_Goes.step (fun tq kq => XS.icmpNo X0.here hx rfl (hb hby d15_3) rfl (XT.ii_lt_f hc3) kq) ?_
      show own_Goes _ _ _ _ _ _ _ (s₁.setTop (mkF m 6 #[.val (.long x0), .second, .val (.long x1), .second, .val (.long x2), .second, .val (.int x3)] []))
      refine own_Goes.step (fun tq kq => XT.lloadN X0.here hx rfl (hb hby d15_6) rfl kq) ?_
      show own_Goes _ _ _ _ _ _ _ (s₁.setTop (mkF m 7 #[.val (.long x0), .second, .val (.long x1), .second, .val (.long x2), .second, .val (.int x3)] [(.long x0)]))
      refine own_Goes.step (fun tq kq => XT.lloadN X0.here hx rfl (hb hby d15_7) rfl kq) ?_
      show own_Goes _ _ _ _ _ _ _ (s₁.setTop (mkF m 8 #[.val (.long x0), .second, .val (.long x1), .second, .val (.long x2), .second, .val (.int x3)] [(.long x1), (.long x0)]))
      refine own_Goes.step (fun tq kq => XT.lcmp X0.here hx rfl (hb hby d15_8) rfl kq) ?_
      show own_Goes _ _ _ _ _ _ _ (s₁.setTop (mkF m 9 #[.val (.long x0), .second, .val (.long x1), .second, .val (.long x2), .second, .val (.int x3)] [(.int (XT.cmpL x0 x1))]))
      by_cases hc4 : x0 = x1
      · refine own_Goes.step (fun tq kq => XS.ifYes X0.here hx rfl (pc0 := 9) (pc' := 25) rfl (hb hby d15_9) rfl (XT.ll_eq_t hc4) (by decide) (by decide) kq) ?_
        show own_Goes _ _ _ _ _ _ _ (s₁.setTop (mkF m 25 #[.val (.long x0), .second, .val (.long x1), .second, .val (.long x2), .second, .val (.int x3)] []))
        refine own_Goes.step (fun tq kq => XT.iconstV X0.here hx rfl (1 : Int32) (hb hby d15_25) (by decide) kq) ?_
        show own_Goes _ _ _ _ _ _ _ (s₁.setTop (mkF m 26 #[.val (.long x0), .second, .val (.long x1), .second, .val (.long x2), .second, .val (.int x3)] [(.int (1 : Int32))]))
        refine own_Goes.step (fun tq kq => XS.goto X0.here hx rfl (pc0 := 26) (pc' := 30) rfl (hb hby d15_26) (by decide) (by decide) kq) ?_
        show own_Goes _ _ _ _ _ _ _ (s₁.setTop (mkF m 30 #[.val (.long x0), .second, .val (.long x1), .second, .val (.long x2), .second, .val (.int x3)] [(.int (1 : Int32))]))
        exact own_endN X0 hx Bd.notSynchronized (t := .boolean) Bd.returns (by simp) (hb hby d15_30) ⟨(congrArg (fun z => some (Value.int z)) (show (1 : Int32) = own_f15 x0 x1 x2 x3 from by simp only [own_f15, if_neg hc3, if_pos hc4])), rfl, e0⟩ (by decide) (by decide)
      · refine own_Goes.step (fun tq kq => XS.ifNo X0.here hx rfl (hb hby d15_9) rfl (XT.ll_eq_f hc4) kq) ?_
        show own_Goes _ _ _ _ _ _ _ (s₁.setTop (mkF m 12 #[.val (.long x0), .second, .val (.long x1), .second, .val (.long x2), .second, .val (.int x3)] []))
        exact J1012 (by simp only [own_f15, if_neg hc3, if_neg hc4])
  obtain ⟨t2, o2, q1, q2, q3, q4⟩ := hgo
  exact ⟨t2, o2, castTop (ef_15 m x0 x1 x2 x3) q1, q2, q3, q4⟩
theorem own_n12 {n : Int32} (h : n < (1 : Int32)) : n < (2 : Int32) := by
  rw [own_lt32] at *
  simp only [Int32.reduceToInt] at *
  omega
theorem own_n21 {n : Int32} (h : ¬ n < (2 : Int32)) : ¬ n < (1 : Int32) := fun q => h (own_n12 q)
theorem own_held0 {K : Nat → Int64} {k a b : Int64} {n : Int32} (h : n < (1 : Int32)) : own_bi (own_mem K 0 k) = own_f15 k a b n := by
  simp only [own_f15, own_f15_at12, own_f15_at29, if_pos h, if_pos (own_n12 h)]
  rfl
theorem own_held1 {K : Nat → Int64} {k a b : Int64} {n : Int32} (h0 : K 0 = a) (h : ¬ n < (1 : Int32)) (h' : n < (2 : Int32)) : own_bi (own_mem K 1 k) = own_f15 k a b n := by
  have e : own_mem K 1 k = decide (a = k) := by
    show (false || decide (K 0 = k)) = _
    rw [h0, Bool.false_or]
  rw [e]
  by_cases q : k = a
  · rw [decide_eq_true q.symm]
    simp only [own_f15, if_neg h, if_pos q]
    rfl
  · rw [decide_eq_false (fun r => q r.symm)]
    simp only [own_f15, own_f15_at12, own_f15_at29, if_neg h, if_neg q, if_pos h']
    rfl
theorem own_held2 {K : Nat → Int64} {k a b : Int64} {n : Int32} (h0 : K 0 = a) (h1 : K 1 = b) (h : ¬ n < (2 : Int32)) : own_bi (own_mem K 2 k) = own_f15 k a b n := by
  have e : own_mem K 2 k = (decide (a = k) || decide (b = k)) := by
    show ((false || decide (K 0 = k)) || decide (K 1 = k)) = _
    rw [h0, h1, Bool.false_or]
  rw [e]
  by_cases q : k = a
  · rw [decide_eq_true q.symm]
    simp only [own_f15, if_neg (own_n21 h), if_pos q, Bool.true_or]
    rfl
  · rw [decide_eq_false (fun r => q r.symm)]
    by_cases r : k = b
    · rw [decide_eq_true r.symm]
      simp only [own_f15, own_f15_at12, own_f15_at29, if_neg (own_n21 h), if_neg q, if_neg h, if_pos r]
      rfl
    · rw [decide_eq_false (fun s => r s.symm)]
      simp only [own_f15, own_f15_at12, own_f15_at29, if_neg (own_n21 h), if_neg q, if_neg h, if_neg r]
      rfl
theorem pn_0 : plainName "com/example/strati/strati/sim/WriteBufferTakeBackLastPutPinLaw" = true := by first | (simp [plainName, overriddenIn]; done) | decide +kernel
theorem pd_0 : parseMethodDescriptor "(JJJI)Z" = some ⟨[.long, .long, .long, .int], (some .boolean)⟩ := by decide +kernel
theorem ef_0 (m : MethodId) (x0 : Int64) (x1 : Int64) (x2 : Int64) (x3 : Int32) : entryFrame m #[(.long x0), (.long x1), (.long x2), (.int x3)] maxLocals = mkF m 0 #[.val (.long x0), .second, .val (.long x1), .second, .val (.long x2), .second, .val (.int x3), .unset, .unset, .unset, .unset, .unset, .unset, .unset] [] := by first | (simp [entryFrame, mkF, argsToLocals, Value.category, maxLocals]; done) | rfl
def own_f0_1 (x0 : Int64) (x1 : Int64) (x2 : Int64) (x3 : Int32) : Int32 := (if ((XT.ushr x3 (2 : Int32)) &&& (3 : Int32)) = (3 : Int32) then (2 : Int32) else ((XT.ushr x3 (2 : Int32)) &&& (3 : Int32)))
def own_f0_2 (x0 : Int64) (x1 : Int64) (x2 : Int64) (x3 : Int32) : Int32 := (if (x3 &&& (3 : Int32)) = (1 : Int32) then (1 : Int32) else (if (x3 &&& (3 : Int32)) = (3 : Int32) then (1 : Int32) else (0 : Int32)))
def own_f0_3 (x0 : Int64) (x1 : Int64) (x2 : Int64) (x3 : Int32) : Int32 := (if (x3 &&& (3 : Int32)) < (2 : Int32) then (0 : Int32) else (1 : Int32))
def own_f0_4 (x0 : Int64) (x1 : Int64) (x2 : Int64) (x3 : Int32) : Int32 := (if ((XT.ushr x3 (7 : Int32)) &&& (1 : Int32)) = (0 : Int32) then (0 : Int32) else (1 : Int32))
def own_f0_5 (x0 : Int64) (x1 : Int64) (x2 : Int64) (x3 : Int32) : Int32 := (if (own_f0_1 x0 x1 x2 x3) = (0 : Int32) then (1 : Int32) else (0 : Int32))
theorem own_flag (x0 x1 x2 : Int64) (x3 : Int32) : own_f0_4 x0 x1 x2 x3 = 0 ∨ own_f0_4 x0 x1 x2 x3 = 1 := by
  unfold own_f0_4
  split
  · exact Or.inl rfl
  · exact Or.inr rfl
theorem own_nb (x0 x1 x2 : Int64) (x3 : Int32) : 0 ≤ (own_f0_1 x0 x1 x2 x3).toInt ∧ (own_f0_1 x0 x1 x2 x3).toInt ≤ 2 := by
  have a : (XT.ushr x3 (2 : Int32) &&& (3 : Int32)).toInt = (XT.ushr x3 (2 : Int32)).toInt % 2 ^ 2 := Jvm.Kit.i32_mask _ _ (k := 2) (by decide) (by decide)
  unfold own_f0_1
  split
  · decide
  · next h =>
    rw [own_eq32] at h
    simp only [Int32.reduceToInt] at h
    omega
theorem own_emp0 (x0 x1 x2 : Int64) (x3 : Int32) (h : own_f0_1 x0 x1 x2 x3 < (1 : Int32)) : own_f14 (Int32.ofNat 0) = own_f0_5 x0 x1 x2 x3 := by
  have b := own_nb x0 x1 x2 x3
  have e : own_f0_1 x0 x1 x2 x3 = 0 := by
    rw [own_lt32] at h
    rw [own_eq32]
    simp only [Int32.reduceToInt] at h ⊢
    omega
  unfold own_f0_5
  rw [if_pos e]
  decide
theorem own_emp1 (x0 x1 x2 : Int64) (x3 : Int32) (h : ¬ own_f0_1 x0 x1 x2 x3 < (1 : Int32)) (h' : own_f0_1 x0 x1 x2 x3 < (2 : Int32)) : own_f14 (Int32.ofNat 1) = own_f0_5 x0 x1 x2 x3 := by
  have e : ¬ own_f0_1 x0 x1 x2 x3 = 0 := fun q => h (by rw [q]; decide)
  unfold own_f0_5
  rw [if_neg e]
  decide
theorem own_emp2 (x0 x1 x2 : Int64) (x3 : Int32) (h : ¬ own_f0_1 x0 x1 x2 x3 < (2 : Int32)) : own_f14 (Int32.ofNat 2) = own_f0_5 x0 x1 x2 x3 := by
  have e : ¬ own_f0_1 x0 x1 x2 x3 = 0 := fun q => h (by rw [q]; decide)
  unfold own_f0_5
  rw [if_neg e]
  decide
def own_F0 (Z : State) (x0 : Int64) (x1 : Int64) (x2 : Int64) (x3 : Int32)  (n0 : Nat) (h0 : Heap) (v : Option Value) (h : Heap) (L : List Loc) : Prop := v = some (.int 1) ∧ Fr n0 L
set_option maxRecDepth 65536 in
set_option maxHeartbeats 40000000 in
theorem own_m0 (l : Launch) (Z : State) (a0 : Array Value) (hw : ∀ d ∈ tables_1, d.before a0 Z = true) (ws : List Jvm.Cond) (x0 : Int64) (x1 : Int64) (x2 : Int64) (x3 : Int32)  (n0 : Nat) (h0 : Heap) (Z0 : n0 ≤ h0.size)   :
    MetFree l x (head1 (Jvm.Cond.code x code maxLocals ret :: ws) room_1) (fun a U => a = #[(.long x0), (.long x1), (.long x2), (.int x3)] ∧ Z.Warmed39 U.vm ∧ U.heap = h0) (fun _ _ _ _ _ => True) (fun _ U o U' => ∃ v L, o = .returned v ∧ own_F0 Z x0 x1 x2 x3 n0 h0 v U'.heap L ∧ FrameEnd U o U' L room_1.cells room_1.slots) := by
  refine MetFree.of_bodySF (plainFor_of_name pn_0) hisR ?_
  intro p e s m args below meth c s₁ Bd hml0 hP hK
  obtain ⟨rfl, hZ, hh⟩ := hP
  have hx := Bd.exec
  have hby := Bd.bytes
  have hml : c.maxLocals = 14 := hml0
  have hown : s.vm.findClass "com/example/strati/strati/sim/WriteBufferTakeBackLastPutPinLaw" = some m.cls := findClass_of_methodNamed Bd.named
  have hnm := (name_of_methodNamed Bd.named Bd.method).1
  have X0 : Stand p l e room_1 s m #[(.long x0), (.long x1), (.long x2), (.int x3)] below meth c s₁ [] 0 0 := Stand.of_body Bd
  have e0 : s₁.heap = h0 := by rw [← hh, Bd.state]; rfl
  have N0 := Fr.nil n0
  have K0 : Keep h0 h0 [] := Keep.refl h0 []
  have hgo : own_Goes p e below s (own_F0 Z x0 x1 x2 x3 n0 h0) room_1.cells room_1.slots (s₁.setTop (mkF m 0 #[.val (.long x0), .second, .val (.long x1), .second, .val (.long x2), .second, .val (.int x3), .unset, .unset, .unset, .unset, .unset, .unset, .unset] [])) := by
    refine own_Goes.step (fun tq kq => XS.iload X0.here hx rfl (hb hby at_0) rfl kq) ?_
    show own_Goes _ _ _ _ _ _ _ (s₁.setTop (mkF m 2 #[.val (.long x0), .second, .val (.long x1), .second, .val (.long x2), .second, .val (.int x3), .unset, .unset, .unset, .unset, .unset, .unset, .unset] [(.int x3)]))
    refine own_Goes.step (fun tq kq => XT.iconstV X0.here hx rfl (2 : Int32) (hb hby at_2) (by decide) kq) ?_
    show own_Goes _ _ _ _ _ _ _ (s₁.setTop (mkF m 3 #[.val (.long x0), .second, .val (.long x1), .second, .val (.long x2), .second, .val (.int x3), .unset, .unset, .unset, .unset, .unset, .unset, .unset] [(.int (2 : Int32)), (.int x3)]))
    refine own_Goes.step (fun tq kq => XT.iushr X0.here hx rfl (hb hby at_3) rfl kq) ?_
    show own_Goes _ _ _ _ _ _ _ (s₁.setTop (mkF m 4 #[.val (.long x0), .second, .val (.long x1), .second, .val (.long x2), .second, .val (.int x3), .unset, .unset, .unset, .unset, .unset, .unset, .unset] [(.int (XT.ushr x3 (2 : Int32)))]))
    refine own_Goes.step (fun tq kq => XT.iconstV X0.here hx rfl (3 : Int32) (hb hby at_4) (by decide) kq) ?_
    show own_Goes _ _ _ _ _ _ _ (s₁.setTop (mkF m 5 #[.val (.long x0), .second, .val (.long x1), .second, .val (.long x2), .second, .val (.int x3), .unset, .unset, .unset, .unset, .unset, .unset, .unset] [(.int (3 : Int32)), (.int (XT.ushr x3 (2 : Int32)))]))
    refine own_Goes.step (fun tq kq => XS.iand X0.here hx rfl (hb hby at_5) rfl kq) ?_
    show own_Goes _ _ _ _ _ _ _ (s₁.setTop (mkF m 6 #[.val (.long x0), .second, .val (.long x1), .second, .val (.long x2), .second, .val (.int x3), .unset, .unset, .unset, .unset, .unset, .unset, .unset] [(.int ((XT.ushr x3 (2 : Int32)) &&& (3 : Int32)))]))
    refine own_Goes.step (fun tq kq => XS.istore X0.here hx rfl (hb hby at_6) rfl (l' := #[.val (.long x0), .second, .val (.long x1), .second, .val (.long x2), .second, .val (.int x3), .val (.int ((XT.ushr x3 (2 : Int32)) &&& (3 : Int32))), .unset, .unset, .unset, .unset, .unset, .unset]) rfl kq) ?_
    show own_Goes _ _ _ _ _ _ _ (s₁.setTop (mkF m 8 #[.val (.long x0), .second, .val (.long x1), .second, .val (.long x2), .second, .val (.int x3), .val (.int ((XT.ushr x3 (2 : Int32)) &&& (3 : Int32))), .unset, .unset, .unset, .unset, .unset, .unset] []))
    refine own_Goes.step (fun tq kq => XS.iload X0.here hx rfl (hb hby at_8) rfl kq) ?_
    show own_Goes _ _ _ _ _ _ _ (s₁.setTop (mkF m 10 #[.val (.long x0), .second, .val (.long x1), .second, .val (.long x2), .second, .val (.int x3), .val (.int ((XT.ushr x3 (2 : Int32)) &&& (3 : Int32))), .unset, .unset, .unset, .unset, .unset, .unset] [(.int ((XT.ushr x3 (2 : Int32)) &&& (3 : Int32)))]))
    refine own_Goes.step (fun tq kq => XT.iconstV X0.here hx rfl (3 : Int32) (hb hby at_10) (by decide) kq) ?_
    show own_Goes _ _ _ _ _ _ _ (s₁.setTop (mkF m 11 #[.val (.long x0), .second, .val (.long x1), .second, .val (.long x2), .second, .val (.int x3), .val (.int ((XT.ushr x3 (2 : Int32)) &&& (3 : Int32))), .unset, .unset, .unset, .unset, .unset, .unset] [(.int (3 : Int32)), (.int ((XT.ushr x3 (2 : Int32)) &&& (3 : Int32)))]))
    have J186 : own_Goes p e below s (own_F0 Z x0 x1 x2 x3 n0 h0) room_1.cells room_1.slots (s₁.setTop (mkF m 17 #[.val (.long x0), .second, .val (.long x1), .second, .val (.long x2), .second, .val (.int x3), .val (.int (own_f0_1 x0 x1 x2 x3)), .unset, .unset, .unset, .unset, .unset, .unset] [])) := by
      refine own_Goes.step (fun tq kq => XS.iload X0.here hx rfl (hb hby at_17) rfl kq) ?_
      show own_Goes _ _ _ _ _ _ _ (s₁.setTop (mkF m 19 #[.val (.long x0), .second, .val (.long x1), .second, .val (.long x2), .second, .val (.int x3), .val (.int (own_f0_1 x0 x1 x2 x3)), .unset, .unset, .unset, .unset, .unset, .unset] [(.int x3)]))
      refine own_Goes.step (fun tq kq => XT.iconstV X0.here hx rfl (3 : Int32) (hb hby at_19) (by decide) kq) ?_
      show own_Goes _ _ _ _ _ _ _ (s₁.setTop (mkF m 20 #[.val (.long x0), .second, .val (.long x1), .second, .val (.long x2), .second, .val (.int x3), .val (.int (own_f0_1 x0 x1 x2 x3)), .unset, .unset, .unset, .unset, .unset, .unset] [(.int (3 : Int32)), (.int x3)]))
      refine own_Goes.step (fun tq kq => XS.iand X0.here hx rfl (hb hby at_20) rfl kq) ?_
      show own_Goes _ _ _ _ _ _ _ (s₁.setTop (mkF m 21 #[.val (.long x0), .second, .val (.long x1), .second, .val (.long x2), .second, .val (.int x3), .val (.int (own_f0_1 x0 x1 x2 x3)), .unset, .unset, .unset, .unset, .unset, .unset] [(.int (x3 &&& (3 : Int32)))]))
      refine own_Goes.step (fun tq kq => XS.istore X0.here hx rfl (hb hby at_21) rfl (l' := #[.val (.long x0), .second, .val (.long x1), .second, .val (.long x2), .second, .val (.int x3), .val (.int (own_f0_1 x0 x1 x2 x3)), .val (.int (x3 &&& (3 : Int32))), .unset, .unset, .unset, .unset, .unset]) rfl kq) ?_
      show own_Goes _ _ _ _ _ _ _ (s₁.setTop (mkF m 23 #[.val (.long x0), .second, .val (.long x1), .second, .val (.long x2), .second, .val (.int x3), .val (.int (own_f0_1 x0 x1 x2 x3)), .val (.int (x3 &&& (3 : Int32))), .unset, .unset, .unset, .unset, .unset] []))
      refine own_Goes.step (fun tq kq => XS.iload X0.here hx rfl (hb hby at_23) rfl kq) ?_
      show own_Goes _ _ _ _ _ _ _ (s₁.setTop (mkF m 25 #[.val (.long x0), .second, .val (.long x1), .second, .val (.long x2), .second, .val (.int x3), .val (.int (own_f0_1 x0 x1 x2 x3)), .val (.int (x3 &&& (3 : Int32))), .unset, .unset, .unset, .unset, .unset] [(.int (x3 &&& (3 : Int32)))]))
      refine own_Goes.step (fun tq kq => XT.iconstV X0.here hx rfl (1 : Int32) (hb hby at_25) (by decide) kq) ?_
      show own_Goes _ _ _ _ _ _ _ (s₁.setTop (mkF m 26 #[.val (.long x0), .second, .val (.long x1), .second, .val (.long x2), .second, .val (.int x3), .val (.int (own_f0_1 x0 x1 x2 x3)), .val (.int (x3 &&& (3 : Int32))), .unset, .unset, .unset, .unset, .unset] [(.int (1 : Int32)), (.int (x3 &&& (3 : Int32)))]))
      have J185 : own_Goes p e below s (own_F0 Z x0 x1 x2 x3 n0 h0) room_1.cells room_1.slots (s₁.setTop (mkF m 40 #[.val (.long x0), .second, .val (.long x1), .second, .val (.long x2), .second, .val (.int x3), .val (.int (own_f0_1 x0 x1 x2 x3)), .val (.int (x3 &&& (3 : Int32))), .unset, .unset, .unset, .unset, .unset] [(.int (own_f0_2 x0 x1 x2 x3))])) := by
        refine own_Goes.step (fun tq kq => XS.istore X0.here hx rfl (hb hby at_40) rfl (l' := #[.val (.long x0), .second, .val (.long x1), .second, .val (.long x2), .second, .val (.int x3), .val (.int (own_f0_1 x0 x1 x2 x3)), .val (.int (x3 &&& (3 : Int32))), .val (.int (own_f0_2 x0 x1 x2 x3)), .unset, .unset, .unset, .unset]) rfl kq) ?_
        show own_Goes _ _ _ _ _ _ _ (s₁.setTop (mkF m 42 #[.val (.long x0), .second, .val (.long x1), .second, .val (.long x2), .second, .val (.int x3), .val (.int (own_f0_1 x0 x1 x2 x3)), .val (.int (x3 &&& (3 : Int32))), .val (.int (own_f0_2 x0 x1 x2 x3)), .unset, .unset, .unset, .unset] []))
        refine own_Goes.step (fun tq kq => XS.iload X0.here hx rfl (hb hby at_42) rfl kq) ?_
        show own_Goes _ _ _ _ _ _ _ (s₁.setTop (mkF m 44 #[.val (.long x0), .second, .val (.long x1), .second, .val (.long x2), .second, .val (.int x3), .val (.int (own_f0_1 x0 x1 x2 x3)), .val (.int (x3 &&& (3 : Int32))), .val (.int (own_f0_2 x0 x1 x2 x3)), .unset, .unset, .unset, .unset] [(.int (x3 &&& (3 : Int32)))]))
        refine own_Goes.step (fun tq kq => XT.iconstV X0.here hx rfl (2 : Int32) (hb hby at_44) (by decide) kq) ?_
        show own_Goes _ _ _ _ _ _ _ (s₁.setTop (mkF m 45 #[.val (.long x0), .second, .val (.long x1), .second, .val (.long x2), .second, .val (.int x3), .val (.int (own_f0_1 x0 x1 x2 x3)), .val (.int (x3 &&& (3 : Int32))), .val (.int (own_f0_2 x0 x1 x2 x3)), .unset, .unset, .unset, .unset] [(.int (2 : Int32)), (.int (x3 &&& (3 : Int32)))]))
        have J184 : own_Goes p e below s (own_F0 Z x0 x1 x2 x3 n0 h0) room_1.cells room_1.slots (s₁.setTop (mkF m 53 #[.val (.long x0), .second, .val (.long x1), .second, .val (.long x2), .second, .val (.int x3), .val (.int (own_f0_1 x0 x1 x2 x3)), .val (.int (x3 &&& (3 : Int32))), .val (.int (own_f0_2 x0 x1 x2 x3)), .unset, .unset, .unset, .unset] [(.int (own_f0_3 x0 x1 x2 x3))])) := by
          refine own_Goes.step (fun tq kq => XS.istore X0.here hx rfl (hb hby at_53) rfl (l' := #[.val (.long x0), .second, .val (.long x1), .second, .val (.long x2), .second, .val (.int x3), .val (.int (own_f0_1 x0 x1 x2 x3)), .val (.int (x3 &&& (3 : Int32))), .val (.int (own_f0_2 x0 x1 x2 x3)), .val (.int (own_f0_3 x0 x1 x2 x3)), .unset, .unset, .unset]) rfl kq) ?_
          show own_Goes _ _ _ _ _ _ _ (s₁.setTop (mkF m 55 #[.val (.long x0), .second, .val (.long x1), .second, .val (.long x2), .second, .val (.int x3), .val (.int (own_f0_1 x0 x1 x2 x3)), .val (.int (x3 &&& (3 : Int32))), .val (.int (own_f0_2 x0 x1 x2 x3)), .val (.int (own_f0_3 x0 x1 x2 x3)), .unset, .unset, .unset] []))
          obtain ⟨T5, h5, X5, e5, E5, A5, D5, -, st5⟩ := newO X0 hx hZ hown (own_at hw 0 rfl) (own_at hw 1 rfl) (own_at hw 2 rfl) e0 (g := (mkF m 55 #[.val (.long x0), .second, .val (.long x1), .second, .val (.long x2), .second, .val (.int x3), .val (.int (own_f0_1 x0 x1 x2 x3)), .val (.int (x3 &&& (3 : Int32))), .val (.int (own_f0_2 x0 x1 x2 x3)), .val (.int (own_f0_3 x0 x1 x2 x3)), .unset, .unset, .unset] [])) rfl (hb hby at_55) (by decide) (by decide)
          obtain ⟨a5, g5⟩ : ∃ z, z = h0.size := ⟨_, rfl⟩
          rw [← g5] at A5 D5 st5
          have f6 : Fld Z h5 a5 "com/example/strati/strati/sim/Entry" "size" "J" (.long (0 : Int64)) := D5 (Or.inr (own_at hw 16 rfl)) (ty := .long) (by decide)
          have f7 : Fld Z h5 a5 "com/example/strati/strati/sim/Entry" "delete" "Z" (.int (0 : Int32)) := D5 (Or.inr (own_at hw 18 rfl)) (ty := .boolean) (by decide)
          have ga5 : n0 ≤ a5 := Nat.le_trans Z0 (Nat.le_of_eq g5.symm)
          have Z5 : n0 ≤ h5.size := Nat.le_trans Z0 E5.1
          have K5 := K0.ext E5
          have Kh5 : h0.size ≤ a5 := Nat.le_trans K0.1 (Nat.le_of_eq g5.symm)
          refine own_Goes.step st5 ?_
          show own_Goes _ _ _ _ _ _ _ (T5.setTop (mkF m 58 #[.val (.long x0), .second, .val (.long x1), .second, .val (.long x2), .second, .val (.int x3), .val (.int (own_f0_1 x0 x1 x2 x3)), .val (.int (x3 &&& (3 : Int32))), .val (.int (own_f0_2 x0 x1 x2 x3)), .val (.int (own_f0_3 x0 x1 x2 x3)), .unset, .unset, .unset] [(.ref a5)]))
          refine own_Goes.step (fun tq kq => XS.dup X5.here hx rfl (hb hby at_58) rfl rfl kq) ?_
          show own_Goes _ _ _ _ _ _ _ (T5.setTop (mkF m 59 #[.val (.long x0), .second, .val (.long x1), .second, .val (.long x2), .second, .val (.int x3), .val (.int (own_f0_1 x0 x1 x2 x3)), .val (.int (x3 &&& (3 : Int32))), .val (.int (own_f0_2 x0 x1 x2 x3)), .val (.int (own_f0_3 x0 x1 x2 x3)), .unset, .unset, .unset] [(.ref a5), (.ref a5)]))
          refine own_Goes.step (fun tq kq => X5.ldc2J hx hown (mvT hZ (own_at hw 3 rfl)) rfl (hb hby at_59) kq) ?_
          show own_Goes _ _ _ _ _ _ _ (T5.setTop (mkF m 62 #[.val (.long x0), .second, .val (.long x1), .second, .val (.long x2), .second, .val (.int x3), .val (.int (own_f0_1 x0 x1 x2 x3)), .val (.int (x3 &&& (3 : Int32))), .val (.int (own_f0_2 x0 x1 x2 x3)), .val (.int (own_f0_3 x0 x1 x2 x3)), .unset, .unset, .unset] [(.long (8 : Int64)), (.ref a5), (.ref a5)]))
          refine own_Goes.step (fun tq kq => XS.iload X5.here hx rfl (hb hby at_62) rfl kq) ?_
          show own_Goes _ _ _ _ _ _ _ (T5.setTop (mkF m 64 #[.val (.long x0), .second, .val (.long x1), .second, .val (.long x2), .second, .val (.int x3), .val (.int (own_f0_1 x0 x1 x2 x3)), .val (.int (x3 &&& (3 : Int32))), .val (.int (own_f0_2 x0 x1 x2 x3)), .val (.int (own_f0_3 x0 x1 x2 x3)), .unset, .unset, .unset] [(.int x3), (.long (8 : Int64)), (.ref a5), (.ref a5)]))
          refine own_Goes.step (fun tq kq => XT.iconstV X5.here hx rfl (4 : Int32) (hb hby at_64) (by decide) kq) ?_
          show own_Goes _ _ _ _ _ _ _ (T5.setTop (mkF m 65 #[.val (.long x0), .second, .val (.long x1), .second, .val (.long x2), .second, .val (.int x3), .val (.int (own_f0_1 x0 x1 x2 x3)), .val (.int (x3 &&& (3 : Int32))), .val (.int (own_f0_2 x0 x1 x2 x3)), .val (.int (own_f0_3 x0 x1 x2 x3)), .unset, .unset, .unset] [(.int (4 : Int32)), (.int x3), (.long (8 : Int64)), (.ref a5), (.ref a5)]))
          refine own_Goes.step (fun tq kq => XT.iushr X5.here hx rfl (hb hby at_65) rfl kq) ?_
          show own_Goes _ _ _ _ _ _ _ (T5.setTop (mkF m 66 #[.val (.long x0), .second, .val (.long x1), .second, .val (.long x2), .second, .val (.int x3), .val (.int (own_f0_1 x0 x1 x2 x3)), .val (.int (x3 &&& (3 : Int32))), .val (.int (own_f0_2 x0 x1 x2 x3)), .val (.int (own_f0_3 x0 x1 x2 x3)), .unset, .unset, .unset] [(.int (XT.ushr x3 (4 : Int32))), (.long (8 : Int64)), (.ref a5), (.ref a5)]))
          refine own_Goes.step (fun tq kq => XT.bipushV X5.here hx rfl (7 : Int32) (hb hby at_66) (by decide) kq) ?_
          show own_Goes _ _ _ _ _ _ _ (T5.setTop (mkF m 68 #[.val (.long x0), .second, .val (.long x1), .second, .val (.long x2), .second, .val (.int x3), .val (.int (own_f0_1 x0 x1 x2 x3)), .val (.int (x3 &&& (3 : Int32))), .val (.int (own_f0_2 x0 x1 x2 x3)), .val (.int (own_f0_3 x0 x1 x2 x3)), .unset, .unset, .unset] [(.int (7 : Int32)), (.int (XT.ushr x3 (4 : Int32))), (.long (8 : Int64)), (.ref a5), (.ref a5)]))
          refine own_Goes.step (fun tq kq => XS.iand X5.here hx rfl (hb hby at_68) rfl kq) ?_
          show own_Goes _ _ _ _ _ _ _ (T5.setTop (mkF m 69 #[.val (.long x0), .second, .val (.long x1), .second, .val (.long x2), .second, .val (.int x3), .val (.int (own_f0_1 x0 x1 x2 x3)), .val (.int (x3 &&& (3 : Int32))), .val (.int (own_f0_2 x0 x1 x2 x3)), .val (.int (own_f0_3 x0 x1 x2 x3)), .unset, .unset, .unset] [(.int ((XT.ushr x3 (4 : Int32)) &&& (7 : Int32))), (.long (8 : Int64)), (.ref a5), (.ref a5)]))
          refine own_Goes.step (fun tq kq => XT.i2l X5.here hx rfl (hb hby at_69) rfl kq) ?_
          show own_Goes _ _ _ _ _ _ _ (T5.setTop (mkF m 70 #[.val (.long x0), .second, .val (.long x1), .second, .val (.long x2), .second, .val (.int x3), .val (.int (own_f0_1 x0 x1 x2 x3)), .val (.int (x3 &&& (3 : Int32))), .val (.int (own_f0_2 x0 x1 x2 x3)), .val (.int (own_f0_3 x0 x1 x2 x3)), .unset, .unset, .unset] [(.long (((XT.ushr x3 (4 : Int32)) &&& (7 : Int32)).toInt64)), (.long (8 : Int64)), (.ref a5), (.ref a5)]))
          refine own_Goes.step (fun tq kq => XT.ladd X5.here hx rfl (hb hby at_70) rfl kq) ?_
          show own_Goes _ _ _ _ _ _ _ (T5.setTop (mkF m 71 #[.val (.long x0), .second, .val (.long x1), .second, .val (.long x2), .second, .val (.int x3), .val (.int (own_f0_1 x0 x1 x2 x3)), .val (.int (x3 &&& (3 : Int32))), .val (.int (own_f0_2 x0 x1 x2 x3)), .val (.int (own_f0_3 x0 x1 x2 x3)), .unset, .unset, .unset] [(.long ((8 : Int64) + (((XT.ushr x3 (4 : Int32)) &&& (7 : Int32)).toInt64))), (.ref a5), (.ref a5)]))
          refine own_Goes.step (fun tq kq => XS.iload X5.here hx rfl (hb hby at_71) rfl kq) ?_
          show own_Goes _ _ _ _ _ _ _ (T5.setTop (mkF m 73 #[.val (.long x0), .second, .val (.long x1), .second, .val (.long x2), .second, .val (.int x3), .val (.int (own_f0_1 x0 x1 x2 x3)), .val (.int (x3 &&& (3 : Int32))), .val (.int (own_f0_2 x0 x1 x2 x3)), .val (.int (own_f0_3 x0 x1 x2 x3)), .unset, .unset, .unset] [(.int x3), (.long ((8 : Int64) + (((XT.ushr x3 (4 : Int32)) &&& (7 : Int32)).toInt64))), (.ref a5), (.ref a5)]))
          refine own_Goes.step (fun tq kq => XT.bipushV X5.here hx rfl (7 : Int32) (hb hby at_73) (by decide) kq) ?_
          show own_Goes _ _ _ _ _ _ _ (T5.setTop (mkF m 75 #[.val (.long x0), .second, .val (.long x1), .second, .val (.long x2), .second, .val (.int x3), .val (.int (own_f0_1 x0 x1 x2 x3)), .val (.int (x3 &&& (3 : Int32))), .val (.int (own_f0_2 x0 x1 x2 x3)), .val (.int (own_f0_3 x0 x1 x2 x3)), .unset, .unset, .unset] [(.int (7 : Int32)), (.int x3), (.long ((8 : Int64) + (((XT.ushr x3 (4 : Int32)) &&& (7 : Int32)).toInt64))), (.ref a5), (.ref a5)]))
          refine own_Goes.step (fun tq kq => XT.iushr X5.here hx rfl (hb hby at_75) rfl kq) ?_
          show own_Goes _ _ _ _ _ _ _ (T5.setTop (mkF m 76 #[.val (.long x0), .second, .val (.long x1), .second, .val (.long x2), .second, .val (.int x3), .val (.int (own_f0_1 x0 x1 x2 x3)), .val (.int (x3 &&& (3 : Int32))), .val (.int (own_f0_2 x0 x1 x2 x3)), .val (.int (own_f0_3 x0 x1 x2 x3)), .unset, .unset, .unset] [(.int (XT.ushr x3 (7 : Int32))), (.long ((8 : Int64) + (((XT.ushr x3 (4 : Int32)) &&& (7 : Int32)).toInt64))), (.ref a5), (.ref a5)]))
          refine own_Goes.step (fun tq kq => XT.iconstV X5.here hx rfl (1 : Int32) (hb hby at_76) (by decide) kq) ?_
          show own_Goes _ _ _ _ _ _ _ (T5.setTop (mkF m 77 #[.val (.long x0), .second, .val (.long x1), .second, .val (.long x2), .second, .val (.int x3), .val (.int (own_f0_1 x0 x1 x2 x3)), .val (.int (x3 &&& (3 : Int32))), .val (.int (own_f0_2 x0 x1 x2 x3)), .val (.int (own_f0_3 x0 x1 x2 x3)), .unset, .unset, .unset] [(.int (1 : Int32)), (.int (XT.ushr x3 (7 : Int32))), (.long ((8 : Int64) + (((XT.ushr x3 (4 : Int32)) &&& (7 : Int32)).toInt64))), (.ref a5), (.ref a5)]))
          refine own_Goes.step (fun tq kq => XS.iand X5.here hx rfl (hb hby at_77) rfl kq) ?_
          show own_Goes _ _ _ _ _ _ _ (T5.setTop (mkF m 78 #[.val (.long x0), .second, .val (.long x1), .second, .val (.long x2), .second, .val (.int x3), .val (.int (own_f0_1 x0 x1 x2 x3)), .val (.int (x3 &&& (3 : Int32))), .val (.int (own_f0_2 x0 x1 x2 x3)), .val (.int (own_f0_3 x0 x1 x2 x3)), .unset, .unset, .unset] [(.int ((XT.ushr x3 (7 : Int32)) &&& (1 : Int32))), (.long ((8 : Int64) + (((XT.ushr x3 (4 : Int32)) &&& (7 : Int32)).toInt64))), (.ref a5), (.ref a5)]))
          have J183 : own_Goes p e below s (own_F0 Z x0 x1 x2 x3 n0 h0) room_1.cells room_1.slots (T5.setTop (mkF m 86 #[.val (.long x0), .second, .val (.long x1), .second, .val (.long x2), .second, .val (.int x3), .val (.int (own_f0_1 x0 x1 x2 x3)), .val (.int (x3 &&& (3 : Int32))), .val (.int (own_f0_2 x0 x1 x2 x3)), .val (.int (own_f0_3 x0 x1 x2 x3)), .unset, .unset, .unset] [(.int (own_f0_4 x0 x1 x2 x3)), (.long ((8 : Int64) + (((XT.ushr x3 (4 : Int32)) &&& (7 : Int32)).toInt64))), (.ref a5), (.ref a5)])) := by
            obtain ⟨w10, T10, L10, q10, Y10, st10⟩ := own_spec X5 hx hZ e5 rfl hown (own_at hw 4 rfl) (own_at hw 5 rfl) (own_at hw 2 rfl) (own_at hw 6 rfl) (by decide) (own_m1 l Z a0 hw [] a5 ((8 : Int64) + (((XT.ushr x3 (4 : Int32)) &&& (7 : Int32)).toInt64)) (own_f0_4 x0 x1 x2 x3) n0 h5 A5 ga5 f6 f7 (own_flag x0 x1 x2 x3) ) (by decide) (W := 1) (by decide) (by decide) (by decide) (g := (mkF m 86 #[.val (.long x0), .second, .val (.long x1), .second, .val (.long x2), .second, .val (.int x3), .val (.int (own_f0_1 x0 x1 x2 x3)), .val (.int (x3 &&& (3 : Int32))), .val (.int (own_f0_2 x0 x1 x2 x3)), .val (.int (own_f0_3 x0 x1 x2 x3)), .unset, .unset, .unset] [(.int (own_f0_4 x0 x1 x2 x3)), (.long ((8 : Int64) + (((XT.ushr x3 (4 : Int32)) &&& (7 : Int32)).toInt64))), (.ref a5), (.ref a5)])) rfl (by rw [hml]; rfl) (a := a5) (argsL := [(.long ((8 : Int64) + (((XT.ushr x3 (4 : Int32)) &&& (7 : Int32)).toInt64))), (.int (own_f0_4 x0 x1 x2 x3))]) (rest := [(.ref a5)]) (lenOf pd_1 rfl) rfl (by show 2 * 0 + _ ≤ _; exact Nat.le_of_eq rfl) (hb hby at_86)
            obtain ⟨rfl, N10, K10, E10, c10_0, c10_1⟩ := q10
            have N14 := Fr.app N0 N10
            have Z15 : n0 ≤ T10.heap.size := Nat.le_trans Z5 K10.1
            have K16 := K5.trans K10 (own_kt (Or.inr Kh5))
            refine own_Goes.step st10 ?_
            show own_Goes _ _ _ _ _ _ _ (T10.setTop (mkF m 89 #[.val (.long x0), .second, .val (.long x1), .second, .val (.long x2), .second, .val (.int x3), .val (.int (own_f0_1 x0 x1 x2 x3)), .val (.int (x3 &&& (3 : Int32))), .val (.int (own_f0_2 x0 x1 x2 x3)), .val (.int (own_f0_3 x0 x1 x2 x3)), .unset, .unset, .unset] [(.ref a5)]))
            refine own_Goes.step (fun tq kq => XS.astore Y10.here hx rfl (hb hby at_89) rfl rfl (l' := #[.val (.long x0), .second, .val (.long x1), .second, .val (.long x2), .second, .val (.int x3), .val (.int (own_f0_1 x0 x1 x2 x3)), .val (.int (x3 &&& (3 : Int32))), .val (.int (own_f0_2 x0 x1 x2 x3)), .val (.int (own_f0_3 x0 x1 x2 x3)), .val (.ref a5), .unset, .unset]) rfl kq) ?_
            show own_Goes _ _ _ _ _ _ _ (T10.setTop (mkF m 91 #[.val (.long x0), .second, .val (.long x1), .second, .val (.long x2), .second, .val (.int x3), .val (.int (own_f0_1 x0 x1 x2 x3)), .val (.int (x3 &&& (3 : Int32))), .val (.int (own_f0_2 x0 x1 x2 x3)), .val (.int (own_f0_3 x0 x1 x2 x3)), .val (.ref a5), .unset, .unset] []))
            obtain ⟨T17, h17, X17, e17, E17, A17, D17, -, st17⟩ := newO Y10 hx hZ hown (own_at hw 19 rfl) (own_at hw 20 rfl) (own_at hw 21 rfl) rfl (g := (mkF m 91 #[.val (.long x0), .second, .val (.long x1), .second, .val (.long x2), .second, .val (.int x3), .val (.int (own_f0_1 x0 x1 x2 x3)), .val (.int (x3 &&& (3 : Int32))), .val (.int (own_f0_2 x0 x1 x2 x3)), .val (.int (own_f0_3 x0 x1 x2 x3)), .val (.ref a5), .unset, .unset] [])) rfl (hb hby at_91) (by decide) (by decide)
            obtain ⟨a17, g17⟩ : ∃ z, z = T10.heap.size := ⟨_, rfl⟩
            rw [← g17] at A17 D17 st17
            have ne18 : a5 ≠ a17 := by rw [g17]; exact Nat.ne_of_lt E10.lt
            have f19 := Jvm.RoadKit.Exa.ext E17 E10
            have f20 := Jvm.RoadKit.Fld.ext E17 c10_0
            have f21 := Jvm.RoadKit.Fld.ext E17 c10_1
            have f22 : Fld Z h17 a17 "com/example/strati/strati/sim/WriteBuffer" "keys" "[J" .null := D17 (Or.inl (own_at hw 28 rfl)) (ty := (.array .long)) (by decide)
            have f23 : Fld Z h17 a17 "com/example/strati/strati/sim/WriteBuffer" "sizes" "[J" .null := D17 (Or.inl (own_at hw 30 rfl)) (ty := (.array .long)) (by decide)
            have f24 : Fld Z h17 a17 "com/example/strati/strati/sim/WriteBuffer" "deletes" "[Z" .null := D17 (Or.inl (own_at hw 33 rfl)) (ty := (.array .boolean)) (by decide)
            have f25 : Fld Z h17 a17 "com/example/strati/strati/sim/WriteBuffer" "positions" "[I" .null := D17 (Or.inl (own_at hw 36 rfl)) (ty := (.array .int)) (by decide)
            have f26 : Fld Z h17 a17 "com/example/strati/strati/sim/WriteBuffer" "lastAdded" "I" (.int (0 : Int32)) := D17 (Or.inl (own_at hw 38 rfl)) (ty := .int) (by decide)
            have f27 : Fld Z h17 a17 "com/example/strati/strati/sim/WriteBuffer" "count" "I" (.int (0 : Int32)) := D17 (Or.inl (own_at hw 45 rfl)) (ty := .int) (by decide)
            have f28 : Fld Z h17 a17 "com/example/strati/strati/sim/WriteBuffer" "firstSize" "J" (.long (0 : Int64)) := D17 (Or.inl (own_at hw 52 rfl)) (ty := .long) (by decide)
            have f29 : Fld Z h17 a17 "com/example/strati/strati/sim/WriteBuffer" "mixedSizes" "Z" (.int (0 : Int32)) := D17 (Or.inl (own_at hw 54 rfl)) (ty := .boolean) (by decide)
            have f30 : Fld Z h17 a17 "com/example/strati/strati/sim/WriteBuffer" "anyMarker" "Z" (.int (0 : Int32)) := D17 (Or.inl (own_at hw 56 rfl)) (ty := .boolean) (by decide)
            have f31 : Fld Z h17 a17 "com/example/strati/strati/sim/WriteBuffer" "slots" "[I" .null := D17 (Or.inl (own_at hw 63 rfl)) (ty := (.array .int)) (by decide)
            have f32 : Fld Z h17 a17 "com/example/strati/strati/sim/WriteBuffer" "indexed" "I" (.int (0 : Int32)) := D17 (Or.inl (own_at hw 74 rfl)) (ty := .int) (by decide)
            have ga17 : n0 ≤ a17 := Nat.le_trans Z15 (Nat.le_of_eq g17.symm)
            have Z17 : n0 ≤ h17.size := Nat.le_trans Z15 E17.1
            have K17 := K16.ext E17
            have Kh17 : h0.size ≤ a17 := Nat.le_trans K16.1 (Nat.le_of_eq g17.symm)
            refine own_Goes.step st17 ?_
            show own_Goes _ _ _ _ _ _ _ (T17.setTop (mkF m 94 #[.val (.long x0), .second, .val (.long x1), .second, .val (.long x2), .second, .val (.int x3), .val (.int (own_f0_1 x0 x1 x2 x3)), .val (.int (x3 &&& (3 : Int32))), .val (.int (own_f0_2 x0 x1 x2 x3)), .val (.int (own_f0_3 x0 x1 x2 x3)), .val (.ref a5), .unset, .unset] [(.ref a17)]))
            refine own_Goes.step (fun tq kq => XS.dup X17.here hx rfl (hb hby at_94) rfl rfl kq) ?_
            show own_Goes _ _ _ _ _ _ _ (T17.setTop (mkF m 95 #[.val (.long x0), .second, .val (.long x1), .second, .val (.long x2), .second, .val (.int x3), .val (.int (own_f0_1 x0 x1 x2 x3)), .val (.int (x3 &&& (3 : Int32))), .val (.int (own_f0_2 x0 x1 x2 x3)), .val (.int (own_f0_3 x0 x1 x2 x3)), .val (.ref a5), .unset, .unset] [(.ref a17), (.ref a17)]))
            obtain ⟨w34, T34, L34, q34, Y34, st34⟩ := own_spec X17 hx hZ e17 rfl hown (own_at hw 22 rfl) (own_at hw 23 rfl) (own_at hw 21 rfl) (own_at hw 24 rfl) (by decide) (own_m4 l Z a0 hw [] a17 n0 h17 A17 ga17 f22 f23 f24 f25 f27 f28 f29 f30 f31 f32 f26) (by decide) (W := 1) (by decide) (by decide) (by decide) (g := (mkF m 95 #[.val (.long x0), .second, .val (.long x1), .second, .val (.long x2), .second, .val (.int x3), .val (.int (own_f0_1 x0 x1 x2 x3)), .val (.int (x3 &&& (3 : Int32))), .val (.int (own_f0_2 x0 x1 x2 x3)), .val (.int (own_f0_3 x0 x1 x2 x3)), .val (.ref a5), .unset, .unset] [(.ref a17), (.ref a17)])) rfl (by rw [hml]; rfl) (a := a17) (argsL := []) (rest := [(.ref a17)]) (lenOf pd_4 rfl) rfl (by show 2 * 0 + _ ≤ _; exact Nat.le_of_eq rfl) (hb hby at_95)
            obtain ⟨rfl, N34, K34, kA, sA, dA, pA, ck, cs, cd, cp, B34⟩ := q34
            have Nn34 := Fr.app N14 N34
            have en_kA : a5 ≠ kA := Nat.ne_of_lt (Nat.lt_of_lt_of_le f19.lt ck)
            have en_sA : a5 ≠ sA := Nat.ne_of_lt (Nat.lt_of_lt_of_le f19.lt cs)
            have en_dA : a5 ≠ dA := Nat.ne_of_lt (Nat.lt_of_lt_of_le f19.lt cd)
            have en_pA : a5 ≠ pA := Nat.ne_of_lt (Nat.lt_of_lt_of_le f19.lt cp)
            have en_w : a5 ≠ a17 := ne18
            have f35 := f19.keep K34
            have f36 := f20.keep K34 (own_nin en_w)
            have f37 := f21.keep K34 (own_nin en_w)
            refine own_Goes.step st34 ?_
            show own_Goes _ _ _ _ _ _ _ (T34.setTop (mkF m 98 #[.val (.long x0), .second, .val (.long x1), .second, .val (.long x2), .second, .val (.int x3), .val (.int (own_f0_1 x0 x1 x2 x3)), .val (.int (x3 &&& (3 : Int32))), .val (.int (own_f0_2 x0 x1 x2 x3)), .val (.int (own_f0_3 x0 x1 x2 x3)), .val (.ref a5), .unset, .unset] [(.ref a17)]))
            refine own_Goes.step (fun tq kq => XS.astore Y34.here hx rfl (hb hby at_98) rfl rfl (l' := #[.val (.long x0), .second, .val (.long x1), .second, .val (.long x2), .second, .val (.int x3), .val (.int (own_f0_1 x0 x1 x2 x3)), .val (.int (x3 &&& (3 : Int32))), .val (.int (own_f0_2 x0 x1 x2 x3)), .val (.int (own_f0_3 x0 x1 x2 x3)), .val (.ref a5), .val (.ref a17), .unset]) rfl kq) ?_
            show own_Goes _ _ _ _ _ _ _ (T34.setTop (mkF m 100 #[.val (.long x0), .second, .val (.long x1), .second, .val (.long x2), .second, .val (.int x3), .val (.int (own_f0_1 x0 x1 x2 x3)), .val (.int (x3 &&& (3 : Int32))), .val (.int (own_f0_2 x0 x1 x2 x3)), .val (.int (own_f0_3 x0 x1 x2 x3)), .val (.ref a5), .val (.ref a17), .unset] []))
            refine own_Goes.step (fun tq kq => XS.iload Y34.here hx rfl (hb hby at_100) rfl kq) ?_
            show own_Goes _ _ _ _ _ _ _ (T34.setTop (mkF m 102 #[.val (.long x0), .second, .val (.long x1), .second, .val (.long x2), .second, .val (.int x3), .val (.int (own_f0_1 x0 x1 x2 x3)), .val (.int (x3 &&& (3 : Int32))), .val (.int (own_f0_2 x0 x1 x2 x3)), .val (.int (own_f0_3 x0 x1 x2 x3)), .val (.ref a5), .val (.ref a17), .unset] [(.int (own_f0_1 x0 x1 x2 x3))]))
            refine own_Goes.step (fun tq kq => XT.iconstV Y34.here hx rfl (1 : Int32) (hb hby at_102) (by decide) kq) ?_
            show own_Goes _ _ _ _ _ _ _ (T34.setTop (mkF m 103 #[.val (.long x0), .second, .val (.long x1), .second, .val (.long x2), .second, .val (.int x3), .val (.int (own_f0_1 x0 x1 x2 x3)), .val (.int (x3 &&& (3 : Int32))), .val (.int (own_f0_2 x0 x1 x2 x3)), .val (.int (own_f0_3 x0 x1 x2 x3)), .val (.ref a5), .val (.ref a17), .unset] [(.int (1 : Int32)), (.int (own_f0_1 x0 x1 x2 x3))]))
            by_cases hc38 : (own_f0_1 x0 x1 x2 x3) < (1 : Int32)
            · refine own_Goes.step (fun tq kq => XS.icmpYes Y34.here hx rfl (pc0 := 103) (pc' := 114) rfl (hb hby at_103) rfl (XT.ii_lt_t hc38) (by decide) (by decide) kq) ?_
              show own_Goes _ _ _ _ _ _ _ (T34.setTop (mkF m 114 #[.val (.long x0), .second, .val (.long x1), .second, .val (.long x2), .second, .val (.int x3), .val (.int (own_f0_1 x0 x1 x2 x3)), .val (.int (x3 &&& (3 : Int32))), .val (.int (own_f0_2 x0 x1 x2 x3)), .val (.int (own_f0_3 x0 x1 x2 x3)), .val (.ref a5), .val (.ref a17), .unset] []))
              refine own_Goes.step (fun tq kq => XS.iload Y34.here hx rfl (hb hby at_114) rfl kq) ?_
              show own_Goes _ _ _ _ _ _ _ (T34.setTop (mkF m 116 #[.val (.long x0), .second, .val (.long x1), .second, .val (.long x2), .second, .val (.int x3), .val (.int (own_f0_1 x0 x1 x2 x3)), .val (.int (x3 &&& (3 : Int32))), .val (.int (own_f0_2 x0 x1 x2 x3)), .val (.int (own_f0_3 x0 x1 x2 x3)), .val (.ref a5), .val (.ref a17), .unset] [(.int (own_f0_1 x0 x1 x2 x3))]))
              refine own_Goes.step (fun tq kq => XT.iconstV Y34.here hx rfl (2 : Int32) (hb hby at_116) (by decide) kq) ?_
              show own_Goes _ _ _ _ _ _ _ (T34.setTop (mkF m 117 #[.val (.long x0), .second, .val (.long x1), .second, .val (.long x2), .second, .val (.int x3), .val (.int (own_f0_1 x0 x1 x2 x3)), .val (.int (x3 &&& (3 : Int32))), .val (.int (own_f0_2 x0 x1 x2 x3)), .val (.int (own_f0_3 x0 x1 x2 x3)), .val (.ref a5), .val (.ref a17), .unset] [(.int (2 : Int32)), (.int (own_f0_1 x0 x1 x2 x3))]))
              refine own_Goes.step (fun tq kq => XS.icmpYes Y34.here hx rfl (pc0 := 117) (pc' := 128) rfl (hb hby at_117) rfl (XT.ii_lt_t (own_n12 hc38)) (by decide) (by decide) kq) ?_
              show own_Goes _ _ _ _ _ _ _ (T34.setTop (mkF m 128 #[.val (.long x0), .second, .val (.long x1), .second, .val (.long x2), .second, .val (.int x3), .val (.int (own_f0_1 x0 x1 x2 x3)), .val (.int (x3 &&& (3 : Int32))), .val (.int (own_f0_2 x0 x1 x2 x3)), .val (.int (own_f0_3 x0 x1 x2 x3)), .val (.ref a5), .val (.ref a17), .unset] []))
              have JS : ∀ (T : State) (lc : List Loc) (h : Heap) (X : Stand p l e room_1 s m #[(.long x0), (.long x1), (.long x2), (.int x3)] below meth c T lc 7 77) (eT : T.heap = h) (NN : Fr n0 lc) (iA : Addr) (S : Nat → Int32) (ixn : Nat) (Sz : Nat → Int64) (D : Nat → Int32) (fs : Int64) (mx am ix la : Int32) (BB : own_W Z h n0 a17 kA sA dA pA (.ref iA) (own_setJ (fun _ => 0) 0 x2) Sz D 0 fs mx am ix la) (II : own_I Z h n0 a17 kA sA dA pA iA S) (IV : own_Inv (own_setJ (fun _ => 0) 0 x2) 0 S ixn), own_Goes p e below s (own_F0 Z x0 x1 x2 x3 n0 h0) room_1.cells room_1.slots (T.setTop (mkF m 196 #[.val (.long x0), .second, .val (.long x1), .second, .val (.long x2), .second, .val (.int x3), .val (.int (own_f0_1 x0 x1 x2 x3)), .val (.int (x3 &&& (3 : Int32))), .val (.int (own_f0_2 x0 x1 x2 x3)), .val (.int (own_f0_3 x0 x1 x2 x3)), .val (.ref a5), .val (.ref a17), .val (.int (1 : Int32))] [])) := by
                intro T lc h X eT NN iA S ixn Sz D fs mx am ix la BB II IV
                refine own_Goes.step (fun tq kq => XS.iload X.here hx rfl (hb hby at_196) rfl kq) ?_
                show own_Goes _ _ _ _ _ _ _ (T.setTop (mkF m 198 #[.val (.long x0), .second, .val (.long x1), .second, .val (.long x2), .second, .val (.int x3), .val (.int (own_f0_1 x0 x1 x2 x3)), .val (.int (x3 &&& (3 : Int32))), .val (.int (own_f0_2 x0 x1 x2 x3)), .val (.int (own_f0_3 x0 x1 x2 x3)), .val (.ref a5), .val (.ref a17), .val (.int (1 : Int32))] [(.int (1 : Int32))]))
                refine own_Goes.step (fun tq kq => XS.aload X.here hx rfl (hb hby at_198) rfl rfl kq) ?_
                show own_Goes _ _ _ _ _ _ _ (T.setTop (mkF m 200 #[.val (.long x0), .second, .val (.long x1), .second, .val (.long x2), .second, .val (.int x3), .val (.int (own_f0_1 x0 x1 x2 x3)), .val (.int (x3 &&& (3 : Int32))), .val (.int (own_f0_2 x0 x1 x2 x3)), .val (.int (own_f0_3 x0 x1 x2 x3)), .val (.ref a5), .val (.ref a17), .val (.int (1 : Int32))] [(.ref a17), (.int (1 : Int32))]))
                obtain ⟨w39, T39, L39, q39, Y39, st39⟩ := own_virt X hx hZ eT (own_W.exa BB) hown (own_at hw 94 rfl) (own_at hw 95 rfl) (own_at hw 97 rfl) (own_at hw 96 rfl) (own_at hw 21 rfl) (own_at hw 98 rfl) (by decide) (own_m14 l Z a0 hw [] a17 (Int32.ofNat 0) h (own_W.count BB) ) (by decide) (W := 1) (by decide) (by decide) (by decide) (g := (mkF m 200 #[.val (.long x0), .second, .val (.long x1), .second, .val (.long x2), .second, .val (.int x3), .val (.int (own_f0_1 x0 x1 x2 x3)), .val (.int (x3 &&& (3 : Int32))), .val (.int (own_f0_2 x0 x1 x2 x3)), .val (.int (own_f0_3 x0 x1 x2 x3)), .val (.ref a5), .val (.ref a17), .val (.int (1 : Int32))] [(.ref a17), (.int (1 : Int32))])) rfl (by rw [hml]; rfl) (argsL := []) (rest := [(.int (1 : Int32))]) (lenOf pd_14 rfl) rfl (by show 2 * 0 + _ ≤ _; exact Nat.le_of_eq rfl) (hb hby at_200)
                obtain ⟨e39, X39⟩ := own_clean q39 Y39 rfl rfl
                obtain ⟨rfl, -, -⟩ := q39
                refine own_Goes.step st39 ?_
                show own_Goes _ _ _ _ _ _ _ (T39.setTop (mkF m 203 #[.val (.long x0), .second, .val (.long x1), .second, .val (.long x2), .second, .val (.int x3), .val (.int (own_f0_1 x0 x1 x2 x3)), .val (.int (x3 &&& (3 : Int32))), .val (.int (own_f0_2 x0 x1 x2 x3)), .val (.int (own_f0_3 x0 x1 x2 x3)), .val (.ref a5), .val (.ref a17), .val (.int (1 : Int32))] [(.int (own_f14 (Int32.ofNat 0))), (.int (1 : Int32))]))
                refine own_Goes.step (fun tq kq => XS.iload X39.here hx rfl (hb hby at_203) rfl kq) ?_
                show own_Goes _ _ _ _ _ _ _ (T39.setTop (mkF m 205 #[.val (.long x0), .second, .val (.long x1), .second, .val (.long x2), .second, .val (.int x3), .val (.int (own_f0_1 x0 x1 x2 x3)), .val (.int (x3 &&& (3 : Int32))), .val (.int (own_f0_2 x0 x1 x2 x3)), .val (.int (own_f0_3 x0 x1 x2 x3)), .val (.ref a5), .val (.ref a17), .val (.int (1 : Int32))] [(.int (own_f0_1 x0 x1 x2 x3)), (.int (own_f14 (Int32.ofNat 0))), (.int (1 : Int32))]))
                have J47 : own_Goes p e below s (own_F0 Z x0 x1 x2 x3 n0 h0) room_1.cells room_1.slots (T39.setTop (mkF m 213 #[.val (.long x0), .second, .val (.long x1), .second, .val (.long x2), .second, .val (.int x3), .val (.int (own_f0_1 x0 x1 x2 x3)), .val (.int (x3 &&& (3 : Int32))), .val (.int (own_f0_2 x0 x1 x2 x3)), .val (.int (own_f0_3 x0 x1 x2 x3)), .val (.ref a5), .val (.ref a17), .val (.int (1 : Int32))] [(.int (own_f0_5 x0 x1 x2 x3)), (.int (own_f14 (Int32.ofNat 0))), (.int (1 : Int32))])) := by
                  refine own_Goes.step (fun tq kq => XS.icmpNo X39.here hx rfl (hb hby at_213) rfl (XT.ii_ne_f (own_emp0 x0 x1 x2 x3 hc38)) kq) ?_
                  show own_Goes _ _ _ _ _ _ _ (T39.setTop (mkF m 216 #[.val (.long x0), .second, .val (.long x1), .second, .val (.long x2), .second, .val (.int x3), .val (.int (own_f0_1 x0 x1 x2 x3)), .val (.int (x3 &&& (3 : Int32))), .val (.int (own_f0_2 x0 x1 x2 x3)), .val (.int (own_f0_3 x0 x1 x2 x3)), .val (.ref a5), .val (.ref a17), .val (.int (1 : Int32))] [(.int (1 : Int32))]))
                  refine own_Goes.step (fun tq kq => XT.iconstV X39.here hx rfl (1 : Int32) (hb hby at_216) (by decide) kq) ?_
                  show own_Goes _ _ _ _ _ _ _ (T39.setTop (mkF m 217 #[.val (.long x0), .second, .val (.long x1), .second, .val (.long x2), .second, .val (.int x3), .val (.int (own_f0_1 x0 x1 x2 x3)), .val (.int (x3 &&& (3 : Int32))), .val (.int (own_f0_2 x0 x1 x2 x3)), .val (.int (own_f0_3 x0 x1 x2 x3)), .val (.ref a5), .val (.ref a17), .val (.int (1 : Int32))] [(.int (1 : Int32)), (.int (1 : Int32))]))
                  refine own_Goes.step (fun tq kq => XS.goto X39.here hx rfl (pc0 := 217) (pc' := 221) rfl (hb hby at_217) (by decide) (by decide) kq) ?_
                  show own_Goes _ _ _ _ _ _ _ (T39.setTop (mkF m 221 #[.val (.long x0), .second, .val (.long x1), .second, .val (.long x2), .second, .val (.int x3), .val (.int (own_f0_1 x0 x1 x2 x3)), .val (.int (x3 &&& (3 : Int32))), .val (.int (own_f0_2 x0 x1 x2 x3)), .val (.int (own_f0_3 x0 x1 x2 x3)), .val (.ref a5), .val (.ref a17), .val (.int (1 : Int32))] [(.int (1 : Int32)), (.int (1 : Int32))]))
                  refine own_Goes.step (fun tq kq => XS.iand X39.here hx rfl (hb hby at_221) rfl kq) ?_
                  show own_Goes _ _ _ _ _ _ _ (T39.setTop (mkF m 222 #[.val (.long x0), .second, .val (.long x1), .second, .val (.long x2), .second, .val (.int x3), .val (.int (own_f0_1 x0 x1 x2 x3)), .val (.int (x3 &&& (3 : Int32))), .val (.int (own_f0_2 x0 x1 x2 x3)), .val (.int (own_f0_3 x0 x1 x2 x3)), .val (.ref a5), .val (.ref a17), .val (.int (1 : Int32))] [(.int (1 : Int32))]))
                  refine own_Goes.step (fun tq kq => XS.istore X39.here hx rfl (hb hby at_222) rfl (l' := #[.val (.long x0), .second, .val (.long x1), .second, .val (.long x2), .second, .val (.int x3), .val (.int (own_f0_1 x0 x1 x2 x3)), .val (.int (x3 &&& (3 : Int32))), .val (.int (own_f0_2 x0 x1 x2 x3)), .val (.int (own_f0_3 x0 x1 x2 x3)), .val (.ref a5), .val (.ref a17), .val (.int (1 : Int32))]) rfl kq) ?_
                  show own_Goes _ _ _ _ _ _ _ (T39.setTop (mkF m 224 #[.val (.long x0), .second, .val (.long x1), .second, .val (.long x2), .second, .val (.int x3), .val (.int (own_f0_1 x0 x1 x2 x3)), .val (.int (x3 &&& (3 : Int32))), .val (.int (own_f0_2 x0 x1 x2 x3)), .val (.int (own_f0_3 x0 x1 x2 x3)), .val (.ref a5), .val (.ref a17), .val (.int (1 : Int32))] []))
                  refine own_Goes.step (fun tq kq => XS.iload X39.here hx rfl (hb hby at_224) rfl kq) ?_
                  show own_Goes _ _ _ _ _ _ _ (T39.setTop (mkF m 226 #[.val (.long x0), .second, .val (.long x1), .second, .val (.long x2), .second, .val (.int x3), .val (.int (own_f0_1 x0 x1 x2 x3)), .val (.int (x3 &&& (3 : Int32))), .val (.int (own_f0_2 x0 x1 x2 x3)), .val (.int (own_f0_3 x0 x1 x2 x3)), .val (.ref a5), .val (.ref a17), .val (.int (1 : Int32))] [(.int (1 : Int32))]))
                  refine own_Goes.step (fun tq kq => XS.aload X39.here hx rfl (hb hby at_226) rfl rfl kq) ?_
                  show own_Goes _ _ _ _ _ _ _ (T39.setTop (mkF m 228 #[.val (.long x0), .second, .val (.long x1), .second, .val (.long x2), .second, .val (.int x3), .val (.int (own_f0_1 x0 x1 x2 x3)), .val (.int (x3 &&& (3 : Int32))), .val (.int (own_f0_2 x0 x1 x2 x3)), .val (.int (own_f0_3 x0 x1 x2 x3)), .val (.ref a5), .val (.ref a17), .val (.int (1 : Int32))] [(.ref a17), (.int (1 : Int32))]))
                  refine own_Goes.step (fun tq kq => XT.lloadN X39.here hx rfl (hb hby at_228) rfl kq) ?_
                  show own_Goes _ _ _ _ _ _ _ (T39.setTop (mkF m 229 #[.val (.long x0), .second, .val (.long x1), .second, .val (.long x2), .second, .val (.int x3), .val (.int (own_f0_1 x0 x1 x2 x3)), .val (.int (x3 &&& (3 : Int32))), .val (.int (own_f0_2 x0 x1 x2 x3)), .val (.int (own_f0_3 x0 x1 x2 x3)), .val (.ref a5), .val (.ref a17), .val (.int (1 : Int32))] [(.long x0), (.ref a17), (.int (1 : Int32))]))
                  obtain ⟨t41, ht41, hm41⟩ := IV.find (by decide) x0
                  have hr41 := IV.says hm41
                  obtain ⟨w41, T41, L41, q41, Y41, st41⟩ := own_virt X39 hx hZ e39 (own_W.exa BB) hown (own_at hw 64 rfl) (own_at hw 65 rfl) (own_at hw 67 rfl) (own_at hw 66 rfl) (own_at hw 21 rfl) (own_at hw 68 rfl) (by decide) (own_m8s l Z a0 hw [] a17 x0 kA sA dA pA (own_setJ (fun _ => 0) 0 x2) Sz D 0 fs mx am la ix iA S t41 (own_mem (own_setJ (fun _ => 0) 0 x2) 0 x0) n0 h BB II (IV.1.ok (by decide)) hm41 ht41 hr41) (by decide) (W := 1) (by decide) (by decide) (by decide) (g := (mkF m 229 #[.val (.long x0), .second, .val (.long x1), .second, .val (.long x2), .second, .val (.int x3), .val (.int (own_f0_1 x0 x1 x2 x3)), .val (.int (x3 &&& (3 : Int32))), .val (.int (own_f0_2 x0 x1 x2 x3)), .val (.int (own_f0_3 x0 x1 x2 x3)), .val (.ref a5), .val (.ref a17), .val (.int (1 : Int32))] [(.long x0), (.ref a17), (.int (1 : Int32))])) rfl (by rw [hml]; rfl) (argsL := [(.long x0)]) (rest := [(.int (1 : Int32))]) (lenOf pd_8 rfl) rfl (by show 2 * 0 + _ ≤ _; exact Nat.le_of_eq rfl) (hb hby at_229)
                  obtain ⟨e41, X41⟩ := own_clean q41 Y41 rfl rfl
                  obtain ⟨rfl, -, -⟩ := q41
                  refine own_Goes.step st41 ?_
                  show own_Goes _ _ _ _ _ _ _ (T41.setTop (mkF m 232 #[.val (.long x0), .second, .val (.long x1), .second, .val (.long x2), .second, .val (.int x3), .val (.int (own_f0_1 x0 x1 x2 x3)), .val (.int (x3 &&& (3 : Int32))), .val (.int (own_f0_2 x0 x1 x2 x3)), .val (.int (own_f0_3 x0 x1 x2 x3)), .val (.ref a5), .val (.ref a17), .val (.int (1 : Int32))] [(.int (own_bi (own_mem (own_setJ (fun _ => 0) 0 x2) 0 x0))), (.int (1 : Int32))]))
                  refine own_Goes.step (fun tq kq => XT.lloadN X41.here hx rfl (hb hby at_232) rfl kq) ?_
                  show own_Goes _ _ _ _ _ _ _ (T41.setTop (mkF m 233 #[.val (.long x0), .second, .val (.long x1), .second, .val (.long x2), .second, .val (.int x3), .val (.int (own_f0_1 x0 x1 x2 x3)), .val (.int (x3 &&& (3 : Int32))), .val (.int (own_f0_2 x0 x1 x2 x3)), .val (.int (own_f0_3 x0 x1 x2 x3)), .val (.ref a5), .val (.ref a17), .val (.int (1 : Int32))] [(.long x0), (.int (own_bi (own_mem (own_setJ (fun _ => 0) 0 x2) 0 x0))), (.int (1 : Int32))]))
                  refine own_Goes.step (fun tq kq => XT.lloadN X41.here hx rfl (hb hby at_233) rfl kq) ?_
                  show own_Goes _ _ _ _ _ _ _ (T41.setTop (mkF m 234 #[.val (.long x0), .second, .val (.long x1), .second, .val (.long x2), .second, .val (.int x3), .val (.int (own_f0_1 x0 x1 x2 x3)), .val (.int (x3 &&& (3 : Int32))), .val (.int (own_f0_2 x0 x1 x2 x3)), .val (.int (own_f0_3 x0 x1 x2 x3)), .val (.ref a5), .val (.ref a17), .val (.int (1 : Int32))] [(.long x0), (.long x0), (.int (own_bi (own_mem (own_setJ (fun _ => 0) 0 x2) 0 x0))), (.int (1 : Int32))]))
                  refine own_Goes.step (fun tq kq => XT.lloadN X41.here hx rfl (hb hby at_234) rfl kq) ?_
                  show own_Goes _ _ _ _ _ _ _ (T41.setTop (mkF m 235 #[.val (.long x0), .second, .val (.long x1), .second, .val (.long x2), .second, .val (.int x3), .val (.int (own_f0_1 x0 x1 x2 x3)), .val (.int (x3 &&& (3 : Int32))), .val (.int (own_f0_2 x0 x1 x2 x3)), .val (.int (own_f0_3 x0 x1 x2 x3)), .val (.ref a5), .val (.ref a17), .val (.int (1 : Int32))] [(.long x1), (.long x0), (.long x0), (.int (own_bi (own_mem (own_setJ (fun _ => 0) 0 x2) 0 x0))), (.int (1 : Int32))]))
                  refine own_Goes.step (fun tq kq => XS.iload X41.here hx rfl (hb hby at_235) rfl kq) ?_
                  show own_Goes _ _ _ _ _ _ _ (T41.setTop (mkF m 237 #[.val (.long x0), .second, .val (.long x1), .second, .val (.long x2), .second, .val (.int x3), .val (.int (own_f0_1 x0 x1 x2 x3)), .val (.int (x3 &&& (3 : Int32))), .val (.int (own_f0_2 x0 x1 x2 x3)), .val (.int (own_f0_3 x0 x1 x2 x3)), .val (.ref a5), .val (.ref a17), .val (.int (1 : Int32))] [(.int (own_f0_1 x0 x1 x2 x3)), (.long x1), (.long x0), (.long x0), (.int (own_bi (own_mem (own_setJ (fun _ => 0) 0 x2) 0 x0))), (.int (1 : Int32))]))
                  obtain ⟨w42, T42, L42, q42, Y42, st42⟩ := own_stat X41 hx hZ e41 hown (own_at hw 99 rfl) (own_at hw 100 rfl) (own_at hw 101 rfl) (own_at hw 102 rfl) (by decide) (own_m15 l Z a0 hw [] x0 x0 x1 (own_f0_1 x0 x1 x2 x3) h ) (by decide) (W := 2) (by decide) (by decide) (by decide) (g := (mkF m 237 #[.val (.long x0), .second, .val (.long x1), .second, .val (.long x2), .second, .val (.int x3), .val (.int (own_f0_1 x0 x1 x2 x3)), .val (.int (x3 &&& (3 : Int32))), .val (.int (own_f0_2 x0 x1 x2 x3)), .val (.int (own_f0_3 x0 x1 x2 x3)), .val (.ref a5), .val (.ref a17), .val (.int (1 : Int32))] [(.int (own_f0_1 x0 x1 x2 x3)), (.long x1), (.long x0), (.long x0), (.int (own_bi (own_mem (own_setJ (fun _ => 0) 0 x2) 0 x0))), (.int (1 : Int32))])) rfl (by rw [hml]; rfl) (argsL := [(.long x0), (.long x0), (.long x1), (.int (own_f0_1 x0 x1 x2 x3))]) (rest := [(.int (own_bi (own_mem (own_setJ (fun _ => 0) 0 x2) 0 x0))), (.int (1 : Int32))]) (lenOf pd_15 rfl) rfl (by show 2 * 0 + _ ≤ _; exact Nat.le_of_eq rfl) (hb hby at_237)
                  obtain ⟨e42, X42⟩ := own_clean q42 Y42 rfl rfl
                  obtain ⟨rfl, -, -⟩ := q42
                  refine own_Goes.step st42 ?_
                  show own_Goes _ _ _ _ _ _ _ (T42.setTop (mkF m 240 #[.val (.long x0), .second, .val (.long x1), .second, .val (.long x2), .second, .val (.int x3), .val (.int (own_f0_1 x0 x1 x2 x3)), .val (.int (x3 &&& (3 : Int32))), .val (.int (own_f0_2 x0 x1 x2 x3)), .val (.int (own_f0_3 x0 x1 x2 x3)), .val (.ref a5), .val (.ref a17), .val (.int (1 : Int32))] [(.int (own_f15 x0 x0 x1 (own_f0_1 x0 x1 x2 x3))), (.int (own_bi (own_mem (own_setJ (fun _ => 0) 0 x2) 0 x0))), (.int (1 : Int32))]))
                  refine own_Goes.step (fun tq kq => XS.icmpNo X42.here hx rfl (hb hby at_240) rfl (XT.ii_ne_f (own_held0  hc38)) kq) ?_
                  show own_Goes _ _ _ _ _ _ _ (T42.setTop (mkF m 243 #[.val (.long x0), .second, .val (.long x1), .second, .val (.long x2), .second, .val (.int x3), .val (.int (own_f0_1 x0 x1 x2 x3)), .val (.int (x3 &&& (3 : Int32))), .val (.int (own_f0_2 x0 x1 x2 x3)), .val (.int (own_f0_3 x0 x1 x2 x3)), .val (.ref a5), .val (.ref a17), .val (.int (1 : Int32))] [(.int (1 : Int32))]))
                  refine own_Goes.step (fun tq kq => XT.iconstV X42.here hx rfl (1 : Int32) (hb hby at_243) (by decide) kq) ?_
                  show own_Goes _ _ _ _ _ _ _ (T42.setTop (mkF m 244 #[.val (.long x0), .second, .val (.long x1), .second, .val (.long x2), .second, .val (.int x3), .val (.int (own_f0_1 x0 x1 x2 x3)), .val (.int (x3 &&& (3 : Int32))), .val (.int (own_f0_2 x0 x1 x2 x3)), .val (.int (own_f0_3 x0 x1 x2 x3)), .val (.ref a5), .val (.ref a17), .val (.int (1 : Int32))] [(.int (1 : Int32)), (.int (1 : Int32))]))
                  refine own_Goes.step (fun tq kq => XS.goto X42.here hx rfl (pc0 := 244) (pc' := 248) rfl (hb hby at_244) (by decide) (by decide) kq) ?_
                  show own_Goes _ _ _ _ _ _ _ (T42.setTop (mkF m 248 #[.val (.long x0), .second, .val (.long x1), .second, .val (.long x2), .second, .val (.int x3), .val (.int (own_f0_1 x0 x1 x2 x3)), .val (.int (x3 &&& (3 : Int32))), .val (.int (own_f0_2 x0 x1 x2 x3)), .val (.int (own_f0_3 x0 x1 x2 x3)), .val (.ref a5), .val (.ref a17), .val (.int (1 : Int32))] [(.int (1 : Int32)), (.int (1 : Int32))]))
                  refine own_Goes.step (fun tq kq => XS.iand X42.here hx rfl (hb hby at_248) rfl kq) ?_
                  show own_Goes _ _ _ _ _ _ _ (T42.setTop (mkF m 249 #[.val (.long x0), .second, .val (.long x1), .second, .val (.long x2), .second, .val (.int x3), .val (.int (own_f0_1 x0 x1 x2 x3)), .val (.int (x3 &&& (3 : Int32))), .val (.int (own_f0_2 x0 x1 x2 x3)), .val (.int (own_f0_3 x0 x1 x2 x3)), .val (.ref a5), .val (.ref a17), .val (.int (1 : Int32))] [(.int (1 : Int32))]))
                  refine own_Goes.step (fun tq kq => XS.istore X42.here hx rfl (hb hby at_249) rfl (l' := #[.val (.long x0), .second, .val (.long x1), .second, .val (.long x2), .second, .val (.int x3), .val (.int (own_f0_1 x0 x1 x2 x3)), .val (.int (x3 &&& (3 : Int32))), .val (.int (own_f0_2 x0 x1 x2 x3)), .val (.int (own_f0_3 x0 x1 x2 x3)), .val (.ref a5), .val (.ref a17), .val (.int (1 : Int32))]) rfl kq) ?_
                  show own_Goes _ _ _ _ _ _ _ (T42.setTop (mkF m 251 #[.val (.long x0), .second, .val (.long x1), .second, .val (.long x2), .second, .val (.int x3), .val (.int (own_f0_1 x0 x1 x2 x3)), .val (.int (x3 &&& (3 : Int32))), .val (.int (own_f0_2 x0 x1 x2 x3)), .val (.int (own_f0_3 x0 x1 x2 x3)), .val (.ref a5), .val (.ref a17), .val (.int (1 : Int32))] []))
                  refine own_Goes.step (fun tq kq => XS.iload X42.here hx rfl (hb hby at_251) rfl kq) ?_
                  show own_Goes _ _ _ _ _ _ _ (T42.setTop (mkF m 253 #[.val (.long x0), .second, .val (.long x1), .second, .val (.long x2), .second, .val (.int x3), .val (.int (own_f0_1 x0 x1 x2 x3)), .val (.int (x3 &&& (3 : Int32))), .val (.int (own_f0_2 x0 x1 x2 x3)), .val (.int (own_f0_3 x0 x1 x2 x3)), .val (.ref a5), .val (.ref a17), .val (.int (1 : Int32))] [(.int (1 : Int32))]))
                  refine own_Goes.step (fun tq kq => XS.aload X42.here hx rfl (hb hby at_253) rfl rfl kq) ?_
                  show own_Goes _ _ _ _ _ _ _ (T42.setTop (mkF m 255 #[.val (.long x0), .second, .val (.long x1), .second, .val (.long x2), .second, .val (.int x3), .val (.int (own_f0_1 x0 x1 x2 x3)), .val (.int (x3 &&& (3 : Int32))), .val (.int (own_f0_2 x0 x1 x2 x3)), .val (.int (own_f0_3 x0 x1 x2 x3)), .val (.ref a5), .val (.ref a17), .val (.int (1 : Int32))] [(.ref a17), (.int (1 : Int32))]))
                  refine own_Goes.step (fun tq kq => XT.lloadN X42.here hx rfl (hb hby at_255) rfl kq) ?_
                  show own_Goes _ _ _ _ _ _ _ (T42.setTop (mkF m 256 #[.val (.long x0), .second, .val (.long x1), .second, .val (.long x2), .second, .val (.int x3), .val (.int (own_f0_1 x0 x1 x2 x3)), .val (.int (x3 &&& (3 : Int32))), .val (.int (own_f0_2 x0 x1 x2 x3)), .val (.int (own_f0_3 x0 x1 x2 x3)), .val (.ref a5), .val (.ref a17), .val (.int (1 : Int32))] [(.long x1), (.ref a17), (.int (1 : Int32))]))
                  obtain ⟨t43, ht43, hm43⟩ := IV.find (by decide) x1
                  have hr43 := IV.says hm43
                  obtain ⟨w43, T43, L43, q43, Y43, st43⟩ := own_virt X42 hx hZ e42 (own_W.exa BB) hown (own_at hw 64 rfl) (own_at hw 65 rfl) (own_at hw 67 rfl) (own_at hw 66 rfl) (own_at hw 21 rfl) (own_at hw 68 rfl) (by decide) (own_m8s l Z a0 hw [] a17 x1 kA sA dA pA (own_setJ (fun _ => 0) 0 x2) Sz D 0 fs mx am la ix iA S t43 (own_mem (own_setJ (fun _ => 0) 0 x2) 0 x1) n0 h BB II (IV.1.ok (by decide)) hm43 ht43 hr43) (by decide) (W := 1) (by decide) (by decide) (by decide) (g := (mkF m 256 #[.val (.long x0), .second, .val (.long x1), .second, .val (.long x2), .second, .val (.int x3), .val (.int (own_f0_1 x0 x1 x2 x3)), .val (.int (x3 &&& (3 : Int32))), .val (.int (own_f0_2 x0 x1 x2 x3)), .val (.int (own_f0_3 x0 x1 x2 x3)), .val (.ref a5), .val (.ref a17), .val (.int (1 : Int32))] [(.long x1), (.ref a17), (.int (1 : Int32))])) rfl (by rw [hml]; rfl) (argsL := [(.long x1)]) (rest := [(.int (1 : Int32))]) (lenOf pd_8 rfl) rfl (by show 2 * 0 + _ ≤ _; exact Nat.le_of_eq rfl) (hb hby at_256)
                  obtain ⟨e43, X43⟩ := own_clean q43 Y43 rfl rfl
                  obtain ⟨rfl, -, -⟩ := q43
                  refine own_Goes.step st43 ?_
                  show own_Goes _ _ _ _ _ _ _ (T43.setTop (mkF m 259 #[.val (.long x0), .second, .val (.long x1), .second, .val (.long x2), .second, .val (.int x3), .val (.int (own_f0_1 x0 x1 x2 x3)), .val (.int (x3 &&& (3 : Int32))), .val (.int (own_f0_2 x0 x1 x2 x3)), .val (.int (own_f0_3 x0 x1 x2 x3)), .val (.ref a5), .val (.ref a17), .val (.int (1 : Int32))] [(.int (own_bi (own_mem (own_setJ (fun _ => 0) 0 x2) 0 x1))), (.int (1 : Int32))]))
                  refine own_Goes.step (fun tq kq => XT.lloadN X43.here hx rfl (hb hby at_259) rfl kq) ?_
                  show own_Goes _ _ _ _ _ _ _ (T43.setTop (mkF m 260 #[.val (.long x0), .second, .val (.long x1), .second, .val (.long x2), .second, .val (.int x3), .val (.int (own_f0_1 x0 x1 x2 x3)), .val (.int (x3 &&& (3 : Int32))), .val (.int (own_f0_2 x0 x1 x2 x3)), .val (.int (own_f0_3 x0 x1 x2 x3)), .val (.ref a5), .val (.ref a17), .val (.int (1 : Int32))] [(.long x1), (.int (own_bi (own_mem (own_setJ (fun _ => 0) 0 x2) 0 x1))), (.int (1 : Int32))]))
                  refine own_Goes.step (fun tq kq => XT.lloadN X43.here hx rfl (hb hby at_260) rfl kq) ?_
                  show own_Goes _ _ _ _ _ _ _ (T43.setTop (mkF m 261 #[.val (.long x0), .second, .val (.long x1), .second, .val (.long x2), .second, .val (.int x3), .val (.int (own_f0_1 x0 x1 x2 x3)), .val (.int (x3 &&& (3 : Int32))), .val (.int (own_f0_2 x0 x1 x2 x3)), .val (.int (own_f0_3 x0 x1 x2 x3)), .val (.ref a5), .val (.ref a17), .val (.int (1 : Int32))] [(.long x0), (.long x1), (.int (own_bi (own_mem (own_setJ (fun _ => 0) 0 x2) 0 x1))), (.int (1 : Int32))]))
                  refine own_Goes.step (fun tq kq => XT.lloadN X43.here hx rfl (hb hby at_261) rfl kq) ?_
                  show own_Goes _ _ _ _ _ _ _ (T43.setTop (mkF m 262 #[.val (.long x0), .second, .val (.long x1), .second, .val (.long x2), .second, .val (.int x3), .val (.int (own_f0_1 x0 x1 x2 x3)), .val (.int (x3 &&& (3 : Int32))), .val (.int (own_f0_2 x0 x1 x2 x3)), .val (.int (own_f0_3 x0 x1 x2 x3)), .val (.ref a5), .val (.ref a17), .val (.int (1 : Int32))] [(.long x1), (.long x0), (.long x1), (.int (own_bi (own_mem (own_setJ (fun _ => 0) 0 x2) 0 x1))), (.int (1 : Int32))]))
                  refine own_Goes.step (fun tq kq => XS.iload X43.here hx rfl (hb hby at_262) rfl kq) ?_
                  show own_Goes _ _ _ _ _ _ _ (T43.setTop (mkF m 264 #[.val (.long x0), .second, .val (.long x1), .second, .val (.long x2), .second, .val (.int x3), .val (.int (own_f0_1 x0 x1 x2 x3)), .val (.int (x3 &&& (3 : Int32))), .val (.int (own_f0_2 x0 x1 x2 x3)), .val (.int (own_f0_3 x0 x1 x2 x3)), .val (.ref a5), .val (.ref a17), .val (.int (1 : Int32))] [(.int (own_f0_1 x0 x1 x2 x3)), (.long x1), (.long x0), (.long x1), (.int (own_bi (own_mem (own_setJ (fun _ => 0) 0 x2) 0 x1))), (.int (1 : Int32))]))
                  obtain ⟨w44, T44, L44, q44, Y44, st44⟩ := own_stat X43 hx hZ e43 hown (own_at hw 99 rfl) (own_at hw 100 rfl) (own_at hw 101 rfl) (own_at hw 102 rfl) (by decide) (own_m15 l Z a0 hw [] x1 x0 x1 (own_f0_1 x0 x1 x2 x3) h ) (by decide) (W := 2) (by decide) (by decide) (by decide) (g := (mkF m 264 #[.val (.long x0), .second, .val (.long x1), .second, .val (.long x2), .second, .val (.int x3), .val (.int (own_f0_1 x0 x1 x2 x3)), .val (.int (x3 &&& (3 : Int32))), .val (.int (own_f0_2 x0 x1 x2 x3)), .val (.int (own_f0_3 x0 x1 x2 x3)), .val (.ref a5), .val (.ref a17), .val (.int (1 : Int32))] [(.int (own_f0_1 x0 x1 x2 x3)), (.long x1), (.long x0), (.long x1), (.int (own_bi (own_mem (own_setJ (fun _ => 0) 0 x2) 0 x1))), (.int (1 : Int32))])) rfl (by rw [hml]; rfl) (argsL := [(.long x1), (.long x0), (.long x1), (.int (own_f0_1 x0 x1 x2 x3))]) (rest := [(.int (own_bi (own_mem (own_setJ (fun _ => 0) 0 x2) 0 x1))), (.int (1 : Int32))]) (lenOf pd_15 rfl) rfl (by show 2 * 0 + _ ≤ _; exact Nat.le_of_eq rfl) (hb hby at_264)
                  obtain ⟨e44, X44⟩ := own_clean q44 Y44 rfl rfl
                  obtain ⟨rfl, -, -⟩ := q44
                  refine own_Goes.step st44 ?_
                  show own_Goes _ _ _ _ _ _ _ (T44.setTop (mkF m 267 #[.val (.long x0), .second, .val (.long x1), .second, .val (.long x2), .second, .val (.int x3), .val (.int (own_f0_1 x0 x1 x2 x3)), .val (.int (x3 &&& (3 : Int32))), .val (.int (own_f0_2 x0 x1 x2 x3)), .val (.int (own_f0_3 x0 x1 x2 x3)), .val (.ref a5), .val (.ref a17), .val (.int (1 : Int32))] [(.int (own_f15 x1 x0 x1 (own_f0_1 x0 x1 x2 x3))), (.int (own_bi (own_mem (own_setJ (fun _ => 0) 0 x2) 0 x1))), (.int (1 : Int32))]))
                  refine own_Goes.step (fun tq kq => XS.icmpNo X44.here hx rfl (hb hby at_267) rfl (XT.ii_ne_f (own_held0  hc38)) kq) ?_
                  show own_Goes _ _ _ _ _ _ _ (T44.setTop (mkF m 270 #[.val (.long x0), .second, .val (.long x1), .second, .val (.long x2), .second, .val (.int x3), .val (.int (own_f0_1 x0 x1 x2 x3)), .val (.int (x3 &&& (3 : Int32))), .val (.int (own_f0_2 x0 x1 x2 x3)), .val (.int (own_f0_3 x0 x1 x2 x3)), .val (.ref a5), .val (.ref a17), .val (.int (1 : Int32))] [(.int (1 : Int32))]))
                  refine own_Goes.step (fun tq kq => XT.iconstV X44.here hx rfl (1 : Int32) (hb hby at_270) (by decide) kq) ?_
                  show own_Goes _ _ _ _ _ _ _ (T44.setTop (mkF m 271 #[.val (.long x0), .second, .val (.long x1), .second, .val (.long x2), .second, .val (.int x3), .val (.int (own_f0_1 x0 x1 x2 x3)), .val (.int (x3 &&& (3 : Int32))), .val (.int (own_f0_2 x0 x1 x2 x3)), .val (.int (own_f0_3 x0 x1 x2 x3)), .val (.ref a5), .val (.ref a17), .val (.int (1 : Int32))] [(.int (1 : Int32)), (.int (1 : Int32))]))
                  refine own_Goes.step (fun tq kq => XS.goto X44.here hx rfl (pc0 := 271) (pc' := 275) rfl (hb hby at_271) (by decide) (by decide) kq) ?_
                  show own_Goes _ _ _ _ _ _ _ (T44.setTop (mkF m 275 #[.val (.long x0), .second, .val (.long x1), .second, .val (.long x2), .second, .val (.int x3), .val (.int (own_f0_1 x0 x1 x2 x3)), .val (.int (x3 &&& (3 : Int32))), .val (.int (own_f0_2 x0 x1 x2 x3)), .val (.int (own_f0_3 x0 x1 x2 x3)), .val (.ref a5), .val (.ref a17), .val (.int (1 : Int32))] [(.int (1 : Int32)), (.int (1 : Int32))]))
                  refine own_Goes.step (fun tq kq => XS.iand X44.here hx rfl (hb hby at_275) rfl kq) ?_
                  show own_Goes _ _ _ _ _ _ _ (T44.setTop (mkF m 276 #[.val (.long x0), .second, .val (.long x1), .second, .val (.long x2), .second, .val (.int x3), .val (.int (own_f0_1 x0 x1 x2 x3)), .val (.int (x3 &&& (3 : Int32))), .val (.int (own_f0_2 x0 x1 x2 x3)), .val (.int (own_f0_3 x0 x1 x2 x3)), .val (.ref a5), .val (.ref a17), .val (.int (1 : Int32))] [(.int (1 : Int32))]))
                  refine own_Goes.step (fun tq kq => XS.istore X44.here hx rfl (hb hby at_276) rfl (l' := #[.val (.long x0), .second, .val (.long x1), .second, .val (.long x2), .second, .val (.int x3), .val (.int (own_f0_1 x0 x1 x2 x3)), .val (.int (x3 &&& (3 : Int32))), .val (.int (own_f0_2 x0 x1 x2 x3)), .val (.int (own_f0_3 x0 x1 x2 x3)), .val (.ref a5), .val (.ref a17), .val (.int (1 : Int32))]) rfl kq) ?_
                  show own_Goes _ _ _ _ _ _ _ (T44.setTop (mkF m 278 #[.val (.long x0), .second, .val (.long x1), .second, .val (.long x2), .second, .val (.int x3), .val (.int (own_f0_1 x0 x1 x2 x3)), .val (.int (x3 &&& (3 : Int32))), .val (.int (own_f0_2 x0 x1 x2 x3)), .val (.int (own_f0_3 x0 x1 x2 x3)), .val (.ref a5), .val (.ref a17), .val (.int (1 : Int32))] []))
                  refine own_Goes.step (fun tq kq => XS.iload X44.here hx rfl (hb hby at_278) rfl kq) ?_
                  show own_Goes _ _ _ _ _ _ _ (T44.setTop (mkF m 280 #[.val (.long x0), .second, .val (.long x1), .second, .val (.long x2), .second, .val (.int x3), .val (.int (own_f0_1 x0 x1 x2 x3)), .val (.int (x3 &&& (3 : Int32))), .val (.int (own_f0_2 x0 x1 x2 x3)), .val (.int (own_f0_3 x0 x1 x2 x3)), .val (.ref a5), .val (.ref a17), .val (.int (1 : Int32))] [(.int (1 : Int32))]))
                  refine own_Goes.step (fun tq kq => XS.aload X44.here hx rfl (hb hby at_280) rfl rfl kq) ?_
                  show own_Goes _ _ _ _ _ _ _ (T44.setTop (mkF m 282 #[.val (.long x0), .second, .val (.long x1), .second, .val (.long x2), .second, .val (.int x3), .val (.int (own_f0_1 x0 x1 x2 x3)), .val (.int (x3 &&& (3 : Int32))), .val (.int (own_f0_2 x0 x1 x2 x3)), .val (.int (own_f0_3 x0 x1 x2 x3)), .val (.ref a5), .val (.ref a17), .val (.int (1 : Int32))] [(.ref a17), (.int (1 : Int32))]))
                  refine own_Goes.step (fun tq kq => XT.lload X44.here hx rfl (hb hby at_282) rfl kq) ?_
                  show own_Goes _ _ _ _ _ _ _ (T44.setTop (mkF m 284 #[.val (.long x0), .second, .val (.long x1), .second, .val (.long x2), .second, .val (.int x3), .val (.int (own_f0_1 x0 x1 x2 x3)), .val (.int (x3 &&& (3 : Int32))), .val (.int (own_f0_2 x0 x1 x2 x3)), .val (.int (own_f0_3 x0 x1 x2 x3)), .val (.ref a5), .val (.ref a17), .val (.int (1 : Int32))] [(.long x2), (.ref a17), (.int (1 : Int32))]))
                  obtain ⟨t45, ht45, hm45⟩ := IV.find (by decide) x2
                  have hr45 := IV.says hm45
                  obtain ⟨w45, T45, L45, q45, Y45, st45⟩ := own_virt X44 hx hZ e44 (own_W.exa BB) hown (own_at hw 64 rfl) (own_at hw 65 rfl) (own_at hw 67 rfl) (own_at hw 66 rfl) (own_at hw 21 rfl) (own_at hw 68 rfl) (by decide) (own_m8s l Z a0 hw [] a17 x2 kA sA dA pA (own_setJ (fun _ => 0) 0 x2) Sz D 0 fs mx am la ix iA S t45 (own_mem (own_setJ (fun _ => 0) 0 x2) 0 x2) n0 h BB II (IV.1.ok (by decide)) hm45 ht45 hr45) (by decide) (W := 1) (by decide) (by decide) (by decide) (g := (mkF m 284 #[.val (.long x0), .second, .val (.long x1), .second, .val (.long x2), .second, .val (.int x3), .val (.int (own_f0_1 x0 x1 x2 x3)), .val (.int (x3 &&& (3 : Int32))), .val (.int (own_f0_2 x0 x1 x2 x3)), .val (.int (own_f0_3 x0 x1 x2 x3)), .val (.ref a5), .val (.ref a17), .val (.int (1 : Int32))] [(.long x2), (.ref a17), (.int (1 : Int32))])) rfl (by rw [hml]; rfl) (argsL := [(.long x2)]) (rest := [(.int (1 : Int32))]) (lenOf pd_8 rfl) rfl (by show 2 * 0 + _ ≤ _; exact Nat.le_of_eq rfl) (hb hby at_284)
                  obtain ⟨e45, X45⟩ := own_clean q45 Y45 rfl rfl
                  obtain ⟨rfl, -, -⟩ := q45
                  refine own_Goes.step st45 ?_
                  show own_Goes _ _ _ _ _ _ _ (T45.setTop (mkF m 287 #[.val (.long x0), .second, .val (.long x1), .second, .val (.long x2), .second, .val (.int x3), .val (.int (own_f0_1 x0 x1 x2 x3)), .val (.int (x3 &&& (3 : Int32))), .val (.int (own_f0_2 x0 x1 x2 x3)), .val (.int (own_f0_3 x0 x1 x2 x3)), .val (.ref a5), .val (.ref a17), .val (.int (1 : Int32))] [(.int (own_bi (own_mem (own_setJ (fun _ => 0) 0 x2) 0 x2))), (.int (1 : Int32))]))
                  refine own_Goes.step (fun tq kq => XT.lload X45.here hx rfl (hb hby at_287) rfl kq) ?_
                  show own_Goes _ _ _ _ _ _ _ (T45.setTop (mkF m 289 #[.val (.long x0), .second, .val (.long x1), .second, .val (.long x2), .second, .val (.int x3), .val (.int (own_f0_1 x0 x1 x2 x3)), .val (.int (x3 &&& (3 : Int32))), .val (.int (own_f0_2 x0 x1 x2 x3)), .val (.int (own_f0_3 x0 x1 x2 x3)), .val (.ref a5), .val (.ref a17), .val (.int (1 : Int32))] [(.long x2), (.int (own_bi (own_mem (own_setJ (fun _ => 0) 0 x2) 0 x2))), (.int (1 : Int32))]))
                  refine own_Goes.step (fun tq kq => XT.lloadN X45.here hx rfl (hb hby at_289) rfl kq) ?_
                  show own_Goes _ _ _ _ _ _ _ (T45.setTop (mkF m 290 #[.val (.long x0), .second, .val (.long x1), .second, .val (.long x2), .second, .val (.int x3), .val (.int (own_f0_1 x0 x1 x2 x3)), .val (.int (x3 &&& (3 : Int32))), .val (.int (own_f0_2 x0 x1 x2 x3)), .val (.int (own_f0_3 x0 x1 x2 x3)), .val (.ref a5), .val (.ref a17), .val (.int (1 : Int32))] [(.long x0), (.long x2), (.int (own_bi (own_mem (own_setJ (fun _ => 0) 0 x2) 0 x2))), (.int (1 : Int32))]))
                  refine own_Goes.step (fun tq kq => XT.lloadN X45.here hx rfl (hb hby at_290) rfl kq) ?_
                  show own_Goes _ _ _ _ _ _ _ (T45.setTop (mkF m 291 #[.val (.long x0), .second, .val (.long x1), .second, .val (.long x2), .second, .val (.int x3), .val (.int (own_f0_1 x0 x1 x2 x3)), .val (.int (x3 &&& (3 : Int32))), .val (.int (own_f0_2 x0 x1 x2 x3)), .val (.int (own_f0_3 x0 x1 x2 x3)), .val (.ref a5), .val (.ref a17), .val (.int (1 : Int32))] [(.long x1), (.long x0), (.long x2), (.int (own_bi (own_mem (own_setJ (fun _ => 0) 0 x2) 0 x2))), (.int (1 : Int32))]))
                  refine own_Goes.step (fun tq kq => XS.iload X45.here hx rfl (hb hby at_291) rfl kq) ?_
                  show own_Goes _ _ _ _ _ _ _ (T45.setTop (mkF m 293 #[.val (.long x0), .second, .val (.long x1), .second, .val (.long x2), .second, .val (.int x3), .val (.int (own_f0_1 x0 x1 x2 x3)), .val (.int (x3 &&& (3 : Int32))), .val (.int (own_f0_2 x0 x1 x2 x3)), .val (.int (own_f0_3 x0 x1 x2 x3)), .val (.ref a5), .val (.ref a17), .val (.int (1 : Int32))] [(.int (own_f0_1 x0 x1 x2 x3)), (.long x1), (.long x0), (.long x2), (.int (own_bi (own_mem (own_setJ (fun _ => 0) 0 x2) 0 x2))), (.int (1 : Int32))]))
                  obtain ⟨w46, T46, L46, q46, Y46, st46⟩ := own_stat X45 hx hZ e45 hown (own_at hw 99 rfl) (own_at hw 100 rfl) (own_at hw 101 rfl) (own_at hw 102 rfl) (by decide) (own_m15 l Z a0 hw [] x2 x0 x1 (own_f0_1 x0 x1 x2 x3) h ) (by decide) (W := 2) (by decide) (by decide) (by decide) (g := (mkF m 293 #[.val (.long x0), .second, .val (.long x1), .second, .val (.long x2), .second, .val (.int x3), .val (.int (own_f0_1 x0 x1 x2 x3)), .val (.int (x3 &&& (3 : Int32))), .val (.int (own_f0_2 x0 x1 x2 x3)), .val (.int (own_f0_3 x0 x1 x2 x3)), .val (.ref a5), .val (.ref a17), .val (.int (1 : Int32))] [(.int (own_f0_1 x0 x1 x2 x3)), (.long x1), (.long x0), (.long x2), (.int (own_bi (own_mem (own_setJ (fun _ => 0) 0 x2) 0 x2))), (.int (1 : Int32))])) rfl (by rw [hml]; rfl) (argsL := [(.long x2), (.long x0), (.long x1), (.int (own_f0_1 x0 x1 x2 x3))]) (rest := [(.int (own_bi (own_mem (own_setJ (fun _ => 0) 0 x2) 0 x2))), (.int (1 : Int32))]) (lenOf pd_15 rfl) rfl (by show 2 * 0 + _ ≤ _; exact Nat.le_of_eq rfl) (hb hby at_293)
                  obtain ⟨e46, X46⟩ := own_clean q46 Y46 rfl rfl
                  obtain ⟨rfl, -, -⟩ := q46
                  refine own_Goes.step st46 ?_
                  show own_Goes _ _ _ _ _ _ _ (T46.setTop (mkF m 296 #[.val (.long x0), .second, .val (.long x1), .second, .val (.long x2), .second, .val (.int x3), .val (.int (own_f0_1 x0 x1 x2 x3)), .val (.int (x3 &&& (3 : Int32))), .val (.int (own_f0_2 x0 x1 x2 x3)), .val (.int (own_f0_3 x0 x1 x2 x3)), .val (.ref a5), .val (.ref a17), .val (.int (1 : Int32))] [(.int (own_f15 x2 x0 x1 (own_f0_1 x0 x1 x2 x3))), (.int (own_bi (own_mem (own_setJ (fun _ => 0) 0 x2) 0 x2))), (.int (1 : Int32))]))
                  refine own_Goes.step (fun tq kq => XS.icmpNo X46.here hx rfl (hb hby at_296) rfl (XT.ii_ne_f (own_held0  hc38)) kq) ?_
                  show own_Goes _ _ _ _ _ _ _ (T46.setTop (mkF m 299 #[.val (.long x0), .second, .val (.long x1), .second, .val (.long x2), .second, .val (.int x3), .val (.int (own_f0_1 x0 x1 x2 x3)), .val (.int (x3 &&& (3 : Int32))), .val (.int (own_f0_2 x0 x1 x2 x3)), .val (.int (own_f0_3 x0 x1 x2 x3)), .val (.ref a5), .val (.ref a17), .val (.int (1 : Int32))] [(.int (1 : Int32))]))
                  refine own_Goes.step (fun tq kq => XT.iconstV X46.here hx rfl (1 : Int32) (hb hby at_299) (by decide) kq) ?_
                  show own_Goes _ _ _ _ _ _ _ (T46.setTop (mkF m 300 #[.val (.long x0), .second, .val (.long x1), .second, .val (.long x2), .second, .val (.int x3), .val (.int (own_f0_1 x0 x1 x2 x3)), .val (.int (x3 &&& (3 : Int32))), .val (.int (own_f0_2 x0 x1 x2 x3)), .val (.int (own_f0_3 x0 x1 x2 x3)), .val (.ref a5), .val (.ref a17), .val (.int (1 : Int32))] [(.int (1 : Int32)), (.int (1 : Int32))]))
                  refine own_Goes.step (fun tq kq => XS.goto X46.here hx rfl (pc0 := 300) (pc' := 304) rfl (hb hby at_300) (by decide) (by decide) kq) ?_
                  show own_Goes _ _ _ _ _ _ _ (T46.setTop (mkF m 304 #[.val (.long x0), .second, .val (.long x1), .second, .val (.long x2), .second, .val (.int x3), .val (.int (own_f0_1 x0 x1 x2 x3)), .val (.int (x3 &&& (3 : Int32))), .val (.int (own_f0_2 x0 x1 x2 x3)), .val (.int (own_f0_3 x0 x1 x2 x3)), .val (.ref a5), .val (.ref a17), .val (.int (1 : Int32))] [(.int (1 : Int32)), (.int (1 : Int32))]))
                  refine own_Goes.step (fun tq kq => XS.iand X46.here hx rfl (hb hby at_304) rfl kq) ?_
                  show own_Goes _ _ _ _ _ _ _ (T46.setTop (mkF m 305 #[.val (.long x0), .second, .val (.long x1), .second, .val (.long x2), .second, .val (.int x3), .val (.int (own_f0_1 x0 x1 x2 x3)), .val (.int (x3 &&& (3 : Int32))), .val (.int (own_f0_2 x0 x1 x2 x3)), .val (.int (own_f0_3 x0 x1 x2 x3)), .val (.ref a5), .val (.ref a17), .val (.int (1 : Int32))] [(.int (1 : Int32))]))
                  refine own_Goes.step (fun tq kq => XS.istore X46.here hx rfl (hb hby at_305) rfl (l' := #[.val (.long x0), .second, .val (.long x1), .second, .val (.long x2), .second, .val (.int x3), .val (.int (own_f0_1 x0 x1 x2 x3)), .val (.int (x3 &&& (3 : Int32))), .val (.int (own_f0_2 x0 x1 x2 x3)), .val (.int (own_f0_3 x0 x1 x2 x3)), .val (.ref a5), .val (.ref a17), .val (.int (1 : Int32))]) rfl kq) ?_
                  show own_Goes _ _ _ _ _ _ _ (T46.setTop (mkF m 307 #[.val (.long x0), .second, .val (.long x1), .second, .val (.long x2), .second, .val (.int x3), .val (.int (own_f0_1 x0 x1 x2 x3)), .val (.int (x3 &&& (3 : Int32))), .val (.int (own_f0_2 x0 x1 x2 x3)), .val (.int (own_f0_3 x0 x1 x2 x3)), .val (.ref a5), .val (.ref a17), .val (.int (1 : Int32))] []))
                  refine own_Goes.step (fun tq kq => XS.iload X46.here hx rfl (hb hby at_307) rfl kq) ?_
                  show own_Goes _ _ _ _ _ _ _ (T46.setTop (mkF m 309 #[.val (.long x0), .second, .val (.long x1), .second, .val (.long x2), .second, .val (.int x3), .val (.int (own_f0_1 x0 x1 x2 x3)), .val (.int (x3 &&& (3 : Int32))), .val (.int (own_f0_2 x0 x1 x2 x3)), .val (.int (own_f0_3 x0 x1 x2 x3)), .val (.ref a5), .val (.ref a17), .val (.int (1 : Int32))] [(.int (1 : Int32))]))
                  exact own_endN X46 hx Bd.notSynchronized (t := .boolean) Bd.returns (by simp) (hb hby at_309) ⟨rfl, NN⟩ (by decide) (by decide)
                by_cases hc40 : (own_f0_1 x0 x1 x2 x3) = (0 : Int32)
                · refine own_Goes.step (fun tq kq => XS.ifNo X39.here hx rfl (hb hby at_205) rfl (XT.i0_ne_f hc40) kq) ?_
                  show own_Goes _ _ _ _ _ _ _ (T39.setTop (mkF m 208 #[.val (.long x0), .second, .val (.long x1), .second, .val (.long x2), .second, .val (.int x3), .val (.int (own_f0_1 x0 x1 x2 x3)), .val (.int (x3 &&& (3 : Int32))), .val (.int (own_f0_2 x0 x1 x2 x3)), .val (.int (own_f0_3 x0 x1 x2 x3)), .val (.ref a5), .val (.ref a17), .val (.int (1 : Int32))] [(.int (own_f14 (Int32.ofNat 0))), (.int (1 : Int32))]))
                  refine own_Goes.step (fun tq kq => XT.iconstV X39.here hx rfl (1 : Int32) (hb hby at_208) (by decide) kq) ?_
                  show own_Goes _ _ _ _ _ _ _ (T39.setTop (mkF m 209 #[.val (.long x0), .second, .val (.long x1), .second, .val (.long x2), .second, .val (.int x3), .val (.int (own_f0_1 x0 x1 x2 x3)), .val (.int (x3 &&& (3 : Int32))), .val (.int (own_f0_2 x0 x1 x2 x3)), .val (.int (own_f0_3 x0 x1 x2 x3)), .val (.ref a5), .val (.ref a17), .val (.int (1 : Int32))] [(.int (1 : Int32)), (.int (own_f14 (Int32.ofNat 0))), (.int (1 : Int32))]))
                  refine own_Goes.step (fun tq kq => XS.goto X39.here hx rfl (pc0 := 209) (pc' := 213) rfl (hb hby at_209) (by decide) (by decide) kq) ?_
                  show own_Goes _ _ _ _ _ _ _ (T39.setTop (mkF m 213 #[.val (.long x0), .second, .val (.long x1), .second, .val (.long x2), .second, .val (.int x3), .val (.int (own_f0_1 x0 x1 x2 x3)), .val (.int (x3 &&& (3 : Int32))), .val (.int (own_f0_2 x0 x1 x2 x3)), .val (.int (own_f0_3 x0 x1 x2 x3)), .val (.ref a5), .val (.ref a17), .val (.int (1 : Int32))] [(.int (1 : Int32)), (.int (own_f14 (Int32.ofNat 0))), (.int (1 : Int32))]))
                  rw [show (own_f0_5 x0 x1 x2 x3) = (1 : Int32) from by simp only [own_f0_5, if_pos hc40]] at J47
                  exact J47
                · refine own_Goes.step (fun tq kq => XS.ifYes X39.here hx rfl (pc0 := 205) (pc' := 212) rfl (hb hby at_205) rfl (XT.i0_ne_t hc40) (by decide) (by decide) kq) ?_
                  show own_Goes _ _ _ _ _ _ _ (T39.setTop (mkF m 212 #[.val (.long x0), .second, .val (.long x1), .second, .val (.long x2), .second, .val (.int x3), .val (.int (own_f0_1 x0 x1 x2 x3)), .val (.int (x3 &&& (3 : Int32))), .val (.int (own_f0_2 x0 x1 x2 x3)), .val (.int (own_f0_3 x0 x1 x2 x3)), .val (.ref a5), .val (.ref a17), .val (.int (1 : Int32))] [(.int (own_f14 (Int32.ofNat 0))), (.int (1 : Int32))]))
                  refine own_Goes.step (fun tq kq => XT.iconstV X39.here hx rfl (0 : Int32) (hb hby at_212) (by decide) kq) ?_
                  show own_Goes _ _ _ _ _ _ _ (T39.setTop (mkF m 213 #[.val (.long x0), .second, .val (.long x1), .second, .val (.long x2), .second, .val (.int x3), .val (.int (own_f0_1 x0 x1 x2 x3)), .val (.int (x3 &&& (3 : Int32))), .val (.int (own_f0_2 x0 x1 x2 x3)), .val (.int (own_f0_3 x0 x1 x2 x3)), .val (.ref a5), .val (.ref a17), .val (.int (1 : Int32))] [(.int (0 : Int32)), (.int (own_f14 (Int32.ofNat 0))), (.int (1 : Int32))]))
                  rw [show (own_f0_5 x0 x1 x2 x3) = (0 : Int32) from by simp only [own_f0_5, if_neg hc40]] at J47
                  exact J47
              refine own_Goes.step (fun tq kq => XT.iconstV Y34.here hx rfl (1 : Int32) (hb hby at_128) (by decide) kq) ?_
              show own_Goes _ _ _ _ _ _ _ (T34.setTop (mkF m 129 #[.val (.long x0), .second, .val (.long x1), .second, .val (.long x2), .second, .val (.int x3), .val (.int (own_f0_1 x0 x1 x2 x3)), .val (.int (x3 &&& (3 : Int32))), .val (.int (own_f0_2 x0 x1 x2 x3)), .val (.int (own_f0_3 x0 x1 x2 x3)), .val (.ref a5), .val (.ref a17), .unset] [(.int (1 : Int32))]))
              refine own_Goes.step (fun tq kq => XS.istore Y34.here hx rfl (hb hby at_129) rfl (l' := #[.val (.long x0), .second, .val (.long x1), .second, .val (.long x2), .second, .val (.int x3), .val (.int (own_f0_1 x0 x1 x2 x3)), .val (.int (x3 &&& (3 : Int32))), .val (.int (own_f0_2 x0 x1 x2 x3)), .val (.int (own_f0_3 x0 x1 x2 x3)), .val (.ref a5), .val (.ref a17), .val (.int (1 : Int32))]) rfl kq) ?_
              show own_Goes _ _ _ _ _ _ _ (T34.setTop (mkF m 131 #[.val (.long x0), .second, .val (.long x1), .second, .val (.long x2), .second, .val (.int x3), .val (.int (own_f0_1 x0 x1 x2 x3)), .val (.int (x3 &&& (3 : Int32))), .val (.int (own_f0_2 x0 x1 x2 x3)), .val (.int (own_f0_3 x0 x1 x2 x3)), .val (.ref a5), .val (.ref a17), .val (.int (1 : Int32))] []))
              refine own_Goes.step (fun tq kq => XS.iload Y34.here hx rfl (hb hby at_131) rfl kq) ?_
              show own_Goes _ _ _ _ _ _ _ (T34.setTop (mkF m 133 #[.val (.long x0), .second, .val (.long x1), .second, .val (.long x2), .second, .val (.int x3), .val (.int (own_f0_1 x0 x1 x2 x3)), .val (.int (x3 &&& (3 : Int32))), .val (.int (own_f0_2 x0 x1 x2 x3)), .val (.int (own_f0_3 x0 x1 x2 x3)), .val (.ref a5), .val (.ref a17), .val (.int (1 : Int32))] [(.int (own_f0_2 x0 x1 x2 x3))]))
              by_cases hc48 : (own_f0_2 x0 x1 x2 x3) = (0 : Int32)
              · refine own_Goes.step (fun tq kq => XS.ifYes Y34.here hx rfl (pc0 := 133) (pc' := 165) rfl (hb hby at_133) rfl (XT.i0_eq_t hc48) (by decide) (by decide) kq) ?_
                show own_Goes _ _ _ _ _ _ _ (T34.setTop (mkF m 165 #[.val (.long x0), .second, .val (.long x1), .second, .val (.long x2), .second, .val (.int x3), .val (.int (own_f0_1 x0 x1 x2 x3)), .val (.int (x3 &&& (3 : Int32))), .val (.int (own_f0_2 x0 x1 x2 x3)), .val (.int (own_f0_3 x0 x1 x2 x3)), .val (.ref a5), .val (.ref a17), .val (.int (1 : Int32))] []))
                refine own_Goes.step (fun tq kq => XS.aload Y34.here hx rfl (hb hby at_165) rfl rfl kq) ?_
                show own_Goes _ _ _ _ _ _ _ (T34.setTop (mkF m 167 #[.val (.long x0), .second, .val (.long x1), .second, .val (.long x2), .second, .val (.int x3), .val (.int (own_f0_1 x0 x1 x2 x3)), .val (.int (x3 &&& (3 : Int32))), .val (.int (own_f0_2 x0 x1 x2 x3)), .val (.int (own_f0_3 x0 x1 x2 x3)), .val (.ref a5), .val (.ref a17), .val (.int (1 : Int32))] [(.ref a17)]))
                refine own_Goes.step (fun tq kq => XT.lload Y34.here hx rfl (hb hby at_167) rfl kq) ?_
                show own_Goes _ _ _ _ _ _ _ (T34.setTop (mkF m 169 #[.val (.long x0), .second, .val (.long x1), .second, .val (.long x2), .second, .val (.int x3), .val (.int (own_f0_1 x0 x1 x2 x3)), .val (.int (x3 &&& (3 : Int32))), .val (.int (own_f0_2 x0 x1 x2 x3)), .val (.int (own_f0_3 x0 x1 x2 x3)), .val (.ref a5), .val (.ref a17), .val (.int (1 : Int32))] [(.long x2), (.ref a17)]))
                refine own_Goes.step (fun tq kq => XS.aload Y34.here hx rfl (hb hby at_169) rfl rfl kq) ?_
                show own_Goes _ _ _ _ _ _ _ (T34.setTop (mkF m 171 #[.val (.long x0), .second, .val (.long x1), .second, .val (.long x2), .second, .val (.int x3), .val (.int (own_f0_1 x0 x1 x2 x3)), .val (.int (x3 &&& (3 : Int32))), .val (.int (own_f0_2 x0 x1 x2 x3)), .val (.int (own_f0_3 x0 x1 x2 x3)), .val (.ref a5), .val (.ref a17), .val (.int (1 : Int32))] [(.ref a5), (.long x2), (.ref a17)]))
                obtain ⟨w49, T49, L49, q49, Y49, st49⟩ := own_virt Y34 hx hZ rfl (own_W.exa B34) hown (own_at hw 39 rfl) (own_at hw 40 rfl) (own_at hw 42 rfl) (own_at hw 41 rfl) (own_at hw 21 rfl) (own_at hw 43 rfl) (by decide) (own_m5n l Z a0 hw [] a17 x2 a5 kA sA dA pA (fun _ => 0) (fun _ => 0) (fun _ => 0) 0 0 0 0 (-1 : Int32) 0 (own_f1_size ((8 : Int64) + (((XT.ushr x3 (4 : Int32)) &&& (7 : Int32)).toInt64)) (own_f0_4 x0 x1 x2 x3)) (own_f1_delete ((8 : Int64) + (((XT.ushr x3 (4 : Int32)) &&& (7 : Int32)).toInt64)) (own_f0_4 x0 x1 x2 x3)) n0 T34.heap B34 f35 f36 f37 (own_flag x0 x1 x2 x3) en_w en_kA en_sA en_dA en_pA (by decide)) (by decide) (W := 0) (by decide) (by decide) (by decide) (g := (mkF m 171 #[.val (.long x0), .second, .val (.long x1), .second, .val (.long x2), .second, .val (.int x3), .val (.int (own_f0_1 x0 x1 x2 x3)), .val (.int (x3 &&& (3 : Int32))), .val (.int (own_f0_2 x0 x1 x2 x3)), .val (.int (own_f0_3 x0 x1 x2 x3)), .val (.ref a5), .val (.ref a17), .val (.int (1 : Int32))] [(.ref a5), (.long x2), (.ref a17)])) rfl (by rw [hml]; rfl) (argsL := [(.long x2), (.ref a5)]) (rest := []) (lenOf pd_5 rfl) rfl (by show 2 * 0 + _ ≤ _; exact Nat.le_of_eq rfl) (hb hby at_171)
                obtain ⟨rfl, N49, K49, fs49, mx49, am49, -, B49⟩ := q49
                have Nn49 := Fr.app Nn34 N49
                have f50 := f35.keep K49
                have f51 := f36.keep K49 (own_nin4 en_w en_kA en_sA en_dA)
                have f52 := f37.keep K49 (own_nin4 en_w en_kA en_sA en_dA)
                refine own_Goes.step st49 ?_
                show own_Goes _ _ _ _ _ _ _ (T49.setTop (mkF m 174 #[.val (.long x0), .second, .val (.long x1), .second, .val (.long x2), .second, .val (.int x3), .val (.int (own_f0_1 x0 x1 x2 x3)), .val (.int (x3 &&& (3 : Int32))), .val (.int (own_f0_2 x0 x1 x2 x3)), .val (.int (own_f0_3 x0 x1 x2 x3)), .val (.ref a5), .val (.ref a17), .val (.int (1 : Int32))] []))
                refine own_Goes.step (fun tq kq => XS.iload Y49.here hx rfl (hb hby at_174) rfl kq) ?_
                show own_Goes _ _ _ _ _ _ _ (T49.setTop (mkF m 176 #[.val (.long x0), .second, .val (.long x1), .second, .val (.long x2), .second, .val (.int x3), .val (.int (own_f0_1 x0 x1 x2 x3)), .val (.int (x3 &&& (3 : Int32))), .val (.int (own_f0_2 x0 x1 x2 x3)), .val (.int (own_f0_3 x0 x1 x2 x3)), .val (.ref a5), .val (.ref a17), .val (.int (1 : Int32))] [(.int (own_f0_3 x0 x1 x2 x3))]))
                by_cases hc53 : (own_f0_3 x0 x1 x2 x3) = (0 : Int32)
                · refine own_Goes.step (fun tq kq => XS.ifYes Y49.here hx rfl (pc0 := 176) (pc' := 191) rfl (hb hby at_176) rfl (XT.i0_eq_t hc53) (by decide) (by decide) kq) ?_
                  show own_Goes _ _ _ _ _ _ _ (T49.setTop (mkF m 191 #[.val (.long x0), .second, .val (.long x1), .second, .val (.long x2), .second, .val (.int x3), .val (.int (own_f0_1 x0 x1 x2 x3)), .val (.int (x3 &&& (3 : Int32))), .val (.int (own_f0_2 x0 x1 x2 x3)), .val (.int (own_f0_3 x0 x1 x2 x3)), .val (.ref a5), .val (.ref a17), .val (.int (1 : Int32))] []))
                  refine own_Goes.step (fun tq kq => XS.aload Y49.here hx rfl (hb hby at_191) rfl rfl kq) ?_
                  show own_Goes _ _ _ _ _ _ _ (T49.setTop (mkF m 193 #[.val (.long x0), .second, .val (.long x1), .second, .val (.long x2), .second, .val (.int x3), .val (.int (own_f0_1 x0 x1 x2 x3)), .val (.int (x3 &&& (3 : Int32))), .val (.int (own_f0_2 x0 x1 x2 x3)), .val (.int (own_f0_3 x0 x1 x2 x3)), .val (.ref a5), .val (.ref a17), .val (.int (1 : Int32))] [(.ref a17)]))
                  obtain ⟨w54, T54, L54, q54, Y54, st54⟩ := own_virt Y49 hx hZ rfl (own_W.exa B49) hown (own_at hw 89 rfl) (own_at hw 90 rfl) (own_at hw 92 rfl) (own_at hw 91 rfl) (own_at hw 21 rfl) (own_at hw 93 rfl) (by decide) (own_m13n l Z a0 hw [] a17 kA sA dA pA (own_setJ (fun _ => 0) 0 x2) (own_setJ (fun _ => 0) 0 (own_f1_size ((8 : Int64) + (((XT.ushr x3 (4 : Int32)) &&& (7 : Int32)).toInt64)) (own_f0_4 x0 x1 x2 x3))) (own_set (fun _ => 0) 0 (nar .boolean (own_f7 (own_f1_delete ((8 : Int64) + (((XT.ushr x3 (4 : Int32)) &&& (7 : Int32)).toInt64)) (own_f0_4 x0 x1 x2 x3))))) 0 fs49 mx49 am49 (-1 : Int32) 0 n0 T49.heap B49) (by decide) (W := 0) (by decide) (by decide) (by decide) (g := (mkF m 193 #[.val (.long x0), .second, .val (.long x1), .second, .val (.long x2), .second, .val (.int x3), .val (.int (own_f0_1 x0 x1 x2 x3)), .val (.int (x3 &&& (3 : Int32))), .val (.int (own_f0_2 x0 x1 x2 x3)), .val (.int (own_f0_3 x0 x1 x2 x3)), .val (.ref a5), .val (.ref a17), .val (.int (1 : Int32))] [(.ref a17)])) rfl (by rw [hml]; rfl) (argsL := []) (rest := []) (lenOf pd_13 rfl) rfl (by show 2 * 0 + _ ≤ _; exact Nat.le_of_eq rfl) (hb hby at_193)
                  obtain ⟨rfl, N54, B54⟩ := q54
                  have Nn54 := Fr.app Nn49 N54
                  refine own_Goes.step st54 ?_
                  show own_Goes _ _ _ _ _ _ _ (T54.setTop (mkF m 196 #[.val (.long x0), .second, .val (.long x1), .second, .val (.long x2), .second, .val (.int x3), .val (.int (own_f0_1 x0 x1 x2 x3)), .val (.int (x3 &&& (3 : Int32))), .val (.int (own_f0_2 x0 x1 x2 x3)), .val (.int (own_f0_3 x0 x1 x2 x3)), .val (.ref a5), .val (.ref a17), .val (.int (1 : Int32))] []))
                  refine own_Goes.step (fun tq kq => XS.iload Y54.here hx rfl (hb hby at_196) rfl kq) ?_
                  show own_Goes _ _ _ _ _ _ _ (T54.setTop (mkF m 198 #[.val (.long x0), .second, .val (.long x1), .second, .val (.long x2), .second, .val (.int x3), .val (.int (own_f0_1 x0 x1 x2 x3)), .val (.int (x3 &&& (3 : Int32))), .val (.int (own_f0_2 x0 x1 x2 x3)), .val (.int (own_f0_3 x0 x1 x2 x3)), .val (.ref a5), .val (.ref a17), .val (.int (1 : Int32))] [(.int (1 : Int32))]))
                  refine own_Goes.step (fun tq kq => XS.aload Y54.here hx rfl (hb hby at_198) rfl rfl kq) ?_
                  show own_Goes _ _ _ _ _ _ _ (T54.setTop (mkF m 200 #[.val (.long x0), .second, .val (.long x1), .second, .val (.long x2), .second, .val (.int x3), .val (.int (own_f0_1 x0 x1 x2 x3)), .val (.int (x3 &&& (3 : Int32))), .val (.int (own_f0_2 x0 x1 x2 x3)), .val (.int (own_f0_3 x0 x1 x2 x3)), .val (.ref a5), .val (.ref a17), .val (.int (1 : Int32))] [(.ref a17), (.int (1 : Int32))]))
                  obtain ⟨w55, T55, L55, q55, Y55, st55⟩ := own_virt Y54 hx hZ rfl (own_W.exa B54) hown (own_at hw 94 rfl) (own_at hw 95 rfl) (own_at hw 97 rfl) (own_at hw 96 rfl) (own_at hw 21 rfl) (own_at hw 98 rfl) (by decide) (own_m14 l Z a0 hw [] a17 (Int32.ofNat 0) T54.heap (own_W.count B54) ) (by decide) (W := 1) (by decide) (by decide) (by decide) (g := (mkF m 200 #[.val (.long x0), .second, .val (.long x1), .second, .val (.long x2), .second, .val (.int x3), .val (.int (own_f0_1 x0 x1 x2 x3)), .val (.int (x3 &&& (3 : Int32))), .val (.int (own_f0_2 x0 x1 x2 x3)), .val (.int (own_f0_3 x0 x1 x2 x3)), .val (.ref a5), .val (.ref a17), .val (.int (1 : Int32))] [(.ref a17), (.int (1 : Int32))])) rfl (by rw [hml]; rfl) (argsL := []) (rest := [(.int (1 : Int32))]) (lenOf pd_14 rfl) rfl (by show 2 * 0 + _ ≤ _; exact Nat.le_of_eq rfl) (hb hby at_200)
                  obtain ⟨e55, X55⟩ := own_clean q55 Y55 rfl rfl
                  obtain ⟨rfl, -, -⟩ := q55
                  refine own_Goes.step st55 ?_
                  show own_Goes _ _ _ _ _ _ _ (T55.setTop (mkF m 203 #[.val (.long x0), .second, .val (.long x1), .second, .val (.long x2), .second, .val (.int x3), .val (.int (own_f0_1 x0 x1 x2 x3)), .val (.int (x3 &&& (3 : Int32))), .val (.int (own_f0_2 x0 x1 x2 x3)), .val (.int (own_f0_3 x0 x1 x2 x3)), .val (.ref a5), .val (.ref a17), .val (.int (1 : Int32))] [(.int (own_f14 (Int32.ofNat 0))), (.int (1 : Int32))]))
                  refine own_Goes.step (fun tq kq => XS.iload X55.here hx rfl (hb hby at_203) rfl kq) ?_
                  show own_Goes _ _ _ _ _ _ _ (T55.setTop (mkF m 205 #[.val (.long x0), .second, .val (.long x1), .second, .val (.long x2), .second, .val (.int x3), .val (.int (own_f0_1 x0 x1 x2 x3)), .val (.int (x3 &&& (3 : Int32))), .val (.int (own_f0_2 x0 x1 x2 x3)), .val (.int (own_f0_3 x0 x1 x2 x3)), .val (.ref a5), .val (.ref a17), .val (.int (1 : Int32))] [(.int (own_f0_1 x0 x1 x2 x3)), (.int (own_f14 (Int32.ofNat 0))), (.int (1 : Int32))]))
                  have J63 : own_Goes p e below s (own_F0 Z x0 x1 x2 x3 n0 h0) room_1.cells room_1.slots (T55.setTop (mkF m 213 #[.val (.long x0), .second, .val (.long x1), .second, .val (.long x2), .second, .val (.int x3), .val (.int (own_f0_1 x0 x1 x2 x3)), .val (.int (x3 &&& (3 : Int32))), .val (.int (own_f0_2 x0 x1 x2 x3)), .val (.int (own_f0_3 x0 x1 x2 x3)), .val (.ref a5), .val (.ref a17), .val (.int (1 : Int32))] [(.int (own_f0_5 x0 x1 x2 x3)), (.int (own_f14 (Int32.ofNat 0))), (.int (1 : Int32))])) := by
                    refine own_Goes.step (fun tq kq => XS.icmpNo X55.here hx rfl (hb hby at_213) rfl (XT.ii_ne_f (own_emp0 x0 x1 x2 x3 hc38)) kq) ?_
                    show own_Goes _ _ _ _ _ _ _ (T55.setTop (mkF m 216 #[.val (.long x0), .second, .val (.long x1), .second, .val (.long x2), .second, .val (.int x3), .val (.int (own_f0_1 x0 x1 x2 x3)), .val (.int (x3 &&& (3 : Int32))), .val (.int (own_f0_2 x0 x1 x2 x3)), .val (.int (own_f0_3 x0 x1 x2 x3)), .val (.ref a5), .val (.ref a17), .val (.int (1 : Int32))] [(.int (1 : Int32))]))
                    refine own_Goes.step (fun tq kq => XT.iconstV X55.here hx rfl (1 : Int32) (hb hby at_216) (by decide) kq) ?_
                    show own_Goes _ _ _ _ _ _ _ (T55.setTop (mkF m 217 #[.val (.long x0), .second, .val (.long x1), .second, .val (.long x2), .second, .val (.int x3), .val (.int (own_f0_1 x0 x1 x2 x3)), .val (.int (x3 &&& (3 : Int32))), .val (.int (own_f0_2 x0 x1 x2 x3)), .val (.int (own_f0_3 x0 x1 x2 x3)), .val (.ref a5), .val (.ref a17), .val (.int (1 : Int32))] [(.int (1 : Int32)), (.int (1 : Int32))]))
                    refine own_Goes.step (fun tq kq => XS.goto X55.here hx rfl (pc0 := 217) (pc' := 221) rfl (hb hby at_217) (by decide) (by decide) kq) ?_
                    show own_Goes _ _ _ _ _ _ _ (T55.setTop (mkF m 221 #[.val (.long x0), .second, .val (.long x1), .second, .val (.long x2), .second, .val (.int x3), .val (.int (own_f0_1 x0 x1 x2 x3)), .val (.int (x3 &&& (3 : Int32))), .val (.int (own_f0_2 x0 x1 x2 x3)), .val (.int (own_f0_3 x0 x1 x2 x3)), .val (.ref a5), .val (.ref a17), .val (.int (1 : Int32))] [(.int (1 : Int32)), (.int (1 : Int32))]))
                    refine own_Goes.step (fun tq kq => XS.iand X55.here hx rfl (hb hby at_221) rfl kq) ?_
                    show own_Goes _ _ _ _ _ _ _ (T55.setTop (mkF m 222 #[.val (.long x0), .second, .val (.long x1), .second, .val (.long x2), .second, .val (.int x3), .val (.int (own_f0_1 x0 x1 x2 x3)), .val (.int (x3 &&& (3 : Int32))), .val (.int (own_f0_2 x0 x1 x2 x3)), .val (.int (own_f0_3 x0 x1 x2 x3)), .val (.ref a5), .val (.ref a17), .val (.int (1 : Int32))] [(.int (1 : Int32))]))
                    refine own_Goes.step (fun tq kq => XS.istore X55.here hx rfl (hb hby at_222) rfl (l' := #[.val (.long x0), .second, .val (.long x1), .second, .val (.long x2), .second, .val (.int x3), .val (.int (own_f0_1 x0 x1 x2 x3)), .val (.int (x3 &&& (3 : Int32))), .val (.int (own_f0_2 x0 x1 x2 x3)), .val (.int (own_f0_3 x0 x1 x2 x3)), .val (.ref a5), .val (.ref a17), .val (.int (1 : Int32))]) rfl kq) ?_
                    show own_Goes _ _ _ _ _ _ _ (T55.setTop (mkF m 224 #[.val (.long x0), .second, .val (.long x1), .second, .val (.long x2), .second, .val (.int x3), .val (.int (own_f0_1 x0 x1 x2 x3)), .val (.int (x3 &&& (3 : Int32))), .val (.int (own_f0_2 x0 x1 x2 x3)), .val (.int (own_f0_3 x0 x1 x2 x3)), .val (.ref a5), .val (.ref a17), .val (.int (1 : Int32))] []))
                    refine own_Goes.step (fun tq kq => XS.iload X55.here hx rfl (hb hby at_224) rfl kq) ?_
                    show own_Goes _ _ _ _ _ _ _ (T55.setTop (mkF m 226 #[.val (.long x0), .second, .val (.long x1), .second, .val (.long x2), .second, .val (.int x3), .val (.int (own_f0_1 x0 x1 x2 x3)), .val (.int (x3 &&& (3 : Int32))), .val (.int (own_f0_2 x0 x1 x2 x3)), .val (.int (own_f0_3 x0 x1 x2 x3)), .val (.ref a5), .val (.ref a17), .val (.int (1 : Int32))] [(.int (1 : Int32))]))
                    refine own_Goes.step (fun tq kq => XS.aload X55.here hx rfl (hb hby at_226) rfl rfl kq) ?_
                    show own_Goes _ _ _ _ _ _ _ (T55.setTop (mkF m 228 #[.val (.long x0), .second, .val (.long x1), .second, .val (.long x2), .second, .val (.int x3), .val (.int (own_f0_1 x0 x1 x2 x3)), .val (.int (x3 &&& (3 : Int32))), .val (.int (own_f0_2 x0 x1 x2 x3)), .val (.int (own_f0_3 x0 x1 x2 x3)), .val (.ref a5), .val (.ref a17), .val (.int (1 : Int32))] [(.ref a17), (.int (1 : Int32))]))
                    refine own_Goes.step (fun tq kq => XT.lloadN X55.here hx rfl (hb hby at_228) rfl kq) ?_
                    show own_Goes _ _ _ _ _ _ _ (T55.setTop (mkF m 229 #[.val (.long x0), .second, .val (.long x1), .second, .val (.long x2), .second, .val (.int x3), .val (.int (own_f0_1 x0 x1 x2 x3)), .val (.int (x3 &&& (3 : Int32))), .val (.int (own_f0_2 x0 x1 x2 x3)), .val (.int (own_f0_3 x0 x1 x2 x3)), .val (.ref a5), .val (.ref a17), .val (.int (1 : Int32))] [(.long x0), (.ref a17), (.int (1 : Int32))]))
                    obtain ⟨w57, T57, L57, q57, Y57, st57⟩ := own_virt X55 hx hZ e55 (own_W.exa B54) hown (own_at hw 64 rfl) (own_at hw 65 rfl) (own_at hw 67 rfl) (own_at hw 66 rfl) (own_at hw 21 rfl) (own_at hw 68 rfl) (by decide) (own_m8n l Z a0 hw [] a17 x0 kA sA dA pA (own_setJ (fun _ => 0) 0 x2) (own_setJ (fun _ => 0) 0 (own_f1_size ((8 : Int64) + (((XT.ushr x3 (4 : Int32)) &&& (7 : Int32)).toInt64)) (own_f0_4 x0 x1 x2 x3))) (own_set (fun _ => 0) 0 (nar .boolean (own_f7 (own_f1_delete ((8 : Int64) + (((XT.ushr x3 (4 : Int32)) &&& (7 : Int32)).toInt64)) (own_f0_4 x0 x1 x2 x3))))) 0 fs49 mx49 am49 (-1 : Int32) 0 n0 T54.heap B54 (by decide)) (by decide) (W := 1) (by decide) (by decide) (by decide) (g := (mkF m 229 #[.val (.long x0), .second, .val (.long x1), .second, .val (.long x2), .second, .val (.int x3), .val (.int (own_f0_1 x0 x1 x2 x3)), .val (.int (x3 &&& (3 : Int32))), .val (.int (own_f0_2 x0 x1 x2 x3)), .val (.int (own_f0_3 x0 x1 x2 x3)), .val (.ref a5), .val (.ref a17), .val (.int (1 : Int32))] [(.long x0), (.ref a17), (.int (1 : Int32))])) rfl (by rw [hml]; rfl) (argsL := [(.long x0)]) (rest := [(.int (1 : Int32))]) (lenOf pd_8 rfl) rfl (by show 2 * 0 + _ ≤ _; exact Nat.le_of_eq rfl) (hb hby at_229)
                    obtain ⟨rfl, N57, K57, iA, S57, ixn57, lb57, hbl57, hiA57, B57, I57⟩ := q57
                    have Nn57 := Fr.app Nn54 N57
                    have IV57 := own_bld_inv (by decide) hbl57
                    refine own_Goes.step st57 ?_
                    show own_Goes _ _ _ _ _ _ _ (T57.setTop (mkF m 232 #[.val (.long x0), .second, .val (.long x1), .second, .val (.long x2), .second, .val (.int x3), .val (.int (own_f0_1 x0 x1 x2 x3)), .val (.int (x3 &&& (3 : Int32))), .val (.int (own_f0_2 x0 x1 x2 x3)), .val (.int (own_f0_3 x0 x1 x2 x3)), .val (.ref a5), .val (.ref a17), .val (.int (1 : Int32))] [(.int (own_bi (own_mem (own_setJ (fun _ => 0) 0 x2) 0 x0))), (.int (1 : Int32))]))
                    refine own_Goes.step (fun tq kq => XT.lloadN Y57.here hx rfl (hb hby at_232) rfl kq) ?_
                    show own_Goes _ _ _ _ _ _ _ (T57.setTop (mkF m 233 #[.val (.long x0), .second, .val (.long x1), .second, .val (.long x2), .second, .val (.int x3), .val (.int (own_f0_1 x0 x1 x2 x3)), .val (.int (x3 &&& (3 : Int32))), .val (.int (own_f0_2 x0 x1 x2 x3)), .val (.int (own_f0_3 x0 x1 x2 x3)), .val (.ref a5), .val (.ref a17), .val (.int (1 : Int32))] [(.long x0), (.int (own_bi (own_mem (own_setJ (fun _ => 0) 0 x2) 0 x0))), (.int (1 : Int32))]))
                    refine own_Goes.step (fun tq kq => XT.lloadN Y57.here hx rfl (hb hby at_233) rfl kq) ?_
                    show own_Goes _ _ _ _ _ _ _ (T57.setTop (mkF m 234 #[.val (.long x0), .second, .val (.long x1), .second, .val (.long x2), .second, .val (.int x3), .val (.int (own_f0_1 x0 x1 x2 x3)), .val (.int (x3 &&& (3 : Int32))), .val (.int (own_f0_2 x0 x1 x2 x3)), .val (.int (own_f0_3 x0 x1 x2 x3)), .val (.ref a5), .val (.ref a17), .val (.int (1 : Int32))] [(.long x0), (.long x0), (.int (own_bi (own_mem (own_setJ (fun _ => 0) 0 x2) 0 x0))), (.int (1 : Int32))]))
                    refine own_Goes.step (fun tq kq => XT.lloadN Y57.here hx rfl (hb hby at_234) rfl kq) ?_
                    show own_Goes _ _ _ _ _ _ _ (T57.setTop (mkF m 235 #[.val (.long x0), .second, .val (.long x1), .second, .val (.long x2), .second, .val (.int x3), .val (.int (own_f0_1 x0 x1 x2 x3)), .val (.int (x3 &&& (3 : Int32))), .val (.int (own_f0_2 x0 x1 x2 x3)), .val (.int (own_f0_3 x0 x1 x2 x3)), .val (.ref a5), .val (.ref a17), .val (.int (1 : Int32))] [(.long x1), (.long x0), (.long x0), (.int (own_bi (own_mem (own_setJ (fun _ => 0) 0 x2) 0 x0))), (.int (1 : Int32))]))
                    refine own_Goes.step (fun tq kq => XS.iload Y57.here hx rfl (hb hby at_235) rfl kq) ?_
                    show own_Goes _ _ _ _ _ _ _ (T57.setTop (mkF m 237 #[.val (.long x0), .second, .val (.long x1), .second, .val (.long x2), .second, .val (.int x3), .val (.int (own_f0_1 x0 x1 x2 x3)), .val (.int (x3 &&& (3 : Int32))), .val (.int (own_f0_2 x0 x1 x2 x3)), .val (.int (own_f0_3 x0 x1 x2 x3)), .val (.ref a5), .val (.ref a17), .val (.int (1 : Int32))] [(.int (own_f0_1 x0 x1 x2 x3)), (.long x1), (.long x0), (.long x0), (.int (own_bi (own_mem (own_setJ (fun _ => 0) 0 x2) 0 x0))), (.int (1 : Int32))]))
                    obtain ⟨w58, T58, L58, q58, Y58, st58⟩ := own_stat Y57 hx hZ rfl hown (own_at hw 99 rfl) (own_at hw 100 rfl) (own_at hw 101 rfl) (own_at hw 102 rfl) (by decide) (own_m15 l Z a0 hw [] x0 x0 x1 (own_f0_1 x0 x1 x2 x3) T57.heap ) (by decide) (W := 2) (by decide) (by decide) (by decide) (g := (mkF m 237 #[.val (.long x0), .second, .val (.long x1), .second, .val (.long x2), .second, .val (.int x3), .val (.int (own_f0_1 x0 x1 x2 x3)), .val (.int (x3 &&& (3 : Int32))), .val (.int (own_f0_2 x0 x1 x2 x3)), .val (.int (own_f0_3 x0 x1 x2 x3)), .val (.ref a5), .val (.ref a17), .val (.int (1 : Int32))] [(.int (own_f0_1 x0 x1 x2 x3)), (.long x1), (.long x0), (.long x0), (.int (own_bi (own_mem (own_setJ (fun _ => 0) 0 x2) 0 x0))), (.int (1 : Int32))])) rfl (by rw [hml]; rfl) (argsL := [(.long x0), (.long x0), (.long x1), (.int (own_f0_1 x0 x1 x2 x3))]) (rest := [(.int (own_bi (own_mem (own_setJ (fun _ => 0) 0 x2) 0 x0))), (.int (1 : Int32))]) (lenOf pd_15 rfl) rfl (by show 2 * 0 + _ ≤ _; exact Nat.le_of_eq rfl) (hb hby at_237)
                    obtain ⟨e58, X58⟩ := own_clean q58 Y58 rfl rfl
                    obtain ⟨rfl, -, -⟩ := q58
                    refine own_Goes.step st58 ?_
                    show own_Goes _ _ _ _ _ _ _ (T58.setTop (mkF m 240 #[.val (.long x0), .second, .val (.long x1), .second, .val (.long x2), .second, .val (.int x3), .val (.int (own_f0_1 x0 x1 x2 x3)), .val (.int (x3 &&& (3 : Int32))), .val (.int (own_f0_2 x0 x1 x2 x3)), .val (.int (own_f0_3 x0 x1 x2 x3)), .val (.ref a5), .val (.ref a17), .val (.int (1 : Int32))] [(.int (own_f15 x0 x0 x1 (own_f0_1 x0 x1 x2 x3))), (.int (own_bi (own_mem (own_setJ (fun _ => 0) 0 x2) 0 x0))), (.int (1 : Int32))]))
                    refine own_Goes.step (fun tq kq => XS.icmpNo X58.here hx rfl (hb hby at_240) rfl (XT.ii_ne_f (own_held0  hc38)) kq) ?_
                    show own_Goes _ _ _ _ _ _ _ (T58.setTop (mkF m 243 #[.val (.long x0), .second, .val (.long x1), .second, .val (.long x2), .second, .val (.int x3), .val (.int (own_f0_1 x0 x1 x2 x3)), .val (.int (x3 &&& (3 : Int32))), .val (.int (own_f0_2 x0 x1 x2 x3)), .val (.int (own_f0_3 x0 x1 x2 x3)), .val (.ref a5), .val (.ref a17), .val (.int (1 : Int32))] [(.int (1 : Int32))]))
                    refine own_Goes.step (fun tq kq => XT.iconstV X58.here hx rfl (1 : Int32) (hb hby at_243) (by decide) kq) ?_
                    show own_Goes _ _ _ _ _ _ _ (T58.setTop (mkF m 244 #[.val (.long x0), .second, .val (.long x1), .second, .val (.long x2), .second, .val (.int x3), .val (.int (own_f0_1 x0 x1 x2 x3)), .val (.int (x3 &&& (3 : Int32))), .val (.int (own_f0_2 x0 x1 x2 x3)), .val (.int (own_f0_3 x0 x1 x2 x3)), .val (.ref a5), .val (.ref a17), .val (.int (1 : Int32))] [(.int (1 : Int32)), (.int (1 : Int32))]))
                    refine own_Goes.step (fun tq kq => XS.goto X58.here hx rfl (pc0 := 244) (pc' := 248) rfl (hb hby at_244) (by decide) (by decide) kq) ?_
                    show own_Goes _ _ _ _ _ _ _ (T58.setTop (mkF m 248 #[.val (.long x0), .second, .val (.long x1), .second, .val (.long x2), .second, .val (.int x3), .val (.int (own_f0_1 x0 x1 x2 x3)), .val (.int (x3 &&& (3 : Int32))), .val (.int (own_f0_2 x0 x1 x2 x3)), .val (.int (own_f0_3 x0 x1 x2 x3)), .val (.ref a5), .val (.ref a17), .val (.int (1 : Int32))] [(.int (1 : Int32)), (.int (1 : Int32))]))
                    refine own_Goes.step (fun tq kq => XS.iand X58.here hx rfl (hb hby at_248) rfl kq) ?_
                    show own_Goes _ _ _ _ _ _ _ (T58.setTop (mkF m 249 #[.val (.long x0), .second, .val (.long x1), .second, .val (.long x2), .second, .val (.int x3), .val (.int (own_f0_1 x0 x1 x2 x3)), .val (.int (x3 &&& (3 : Int32))), .val (.int (own_f0_2 x0 x1 x2 x3)), .val (.int (own_f0_3 x0 x1 x2 x3)), .val (.ref a5), .val (.ref a17), .val (.int (1 : Int32))] [(.int (1 : Int32))]))
                    refine own_Goes.step (fun tq kq => XS.istore X58.here hx rfl (hb hby at_249) rfl (l' := #[.val (.long x0), .second, .val (.long x1), .second, .val (.long x2), .second, .val (.int x3), .val (.int (own_f0_1 x0 x1 x2 x3)), .val (.int (x3 &&& (3 : Int32))), .val (.int (own_f0_2 x0 x1 x2 x3)), .val (.int (own_f0_3 x0 x1 x2 x3)), .val (.ref a5), .val (.ref a17), .val (.int (1 : Int32))]) rfl kq) ?_
                    show own_Goes _ _ _ _ _ _ _ (T58.setTop (mkF m 251 #[.val (.long x0), .second, .val (.long x1), .second, .val (.long x2), .second, .val (.int x3), .val (.int (own_f0_1 x0 x1 x2 x3)), .val (.int (x3 &&& (3 : Int32))), .val (.int (own_f0_2 x0 x1 x2 x3)), .val (.int (own_f0_3 x0 x1 x2 x3)), .val (.ref a5), .val (.ref a17), .val (.int (1 : Int32))] []))
                    refine own_Goes.step (fun tq kq => XS.iload X58.here hx rfl (hb hby at_251) rfl kq) ?_
                    show own_Goes _ _ _ _ _ _ _ (T58.setTop (mkF m 253 #[.val (.long x0), .second, .val (.long x1), .second, .val (.long x2), .second, .val (.int x3), .val (.int (own_f0_1 x0 x1 x2 x3)), .val (.int (x3 &&& (3 : Int32))), .val (.int (own_f0_2 x0 x1 x2 x3)), .val (.int (own_f0_3 x0 x1 x2 x3)), .val (.ref a5), .val (.ref a17), .val (.int (1 : Int32))] [(.int (1 : Int32))]))
                    refine own_Goes.step (fun tq kq => XS.aload X58.here hx rfl (hb hby at_253) rfl rfl kq) ?_
                    show own_Goes _ _ _ _ _ _ _ (T58.setTop (mkF m 255 #[.val (.long x0), .second, .val (.long x1), .second, .val (.long x2), .second, .val (.int x3), .val (.int (own_f0_1 x0 x1 x2 x3)), .val (.int (x3 &&& (3 : Int32))), .val (.int (own_f0_2 x0 x1 x2 x3)), .val (.int (own_f0_3 x0 x1 x2 x3)), .val (.ref a5), .val (.ref a17), .val (.int (1 : Int32))] [(.ref a17), (.int (1 : Int32))]))
                    refine own_Goes.step (fun tq kq => XT.lloadN X58.here hx rfl (hb hby at_255) rfl kq) ?_
                    show own_Goes _ _ _ _ _ _ _ (T58.setTop (mkF m 256 #[.val (.long x0), .second, .val (.long x1), .second, .val (.long x2), .second, .val (.int x3), .val (.int (own_f0_1 x0 x1 x2 x3)), .val (.int (x3 &&& (3 : Int32))), .val (.int (own_f0_2 x0 x1 x2 x3)), .val (.int (own_f0_3 x0 x1 x2 x3)), .val (.ref a5), .val (.ref a17), .val (.int (1 : Int32))] [(.long x1), (.ref a17), (.int (1 : Int32))]))
                    obtain ⟨t59, ht59, hm59⟩ := IV57.find (by decide) x1
                    have hr59 := IV57.says hm59
                    obtain ⟨w59, T59, L59, q59, Y59, st59⟩ := own_virt X58 hx hZ e58 (own_W.exa B57) hown (own_at hw 64 rfl) (own_at hw 65 rfl) (own_at hw 67 rfl) (own_at hw 66 rfl) (own_at hw 21 rfl) (own_at hw 68 rfl) (by decide) (own_m8s l Z a0 hw [] a17 x1 kA sA dA pA (own_setJ (fun _ => 0) 0 x2) (own_setJ (fun _ => 0) 0 (own_f1_size ((8 : Int64) + (((XT.ushr x3 (4 : Int32)) &&& (7 : Int32)).toInt64)) (own_f0_4 x0 x1 x2 x3))) (own_set (fun _ => 0) 0 (nar .boolean (own_f7 (own_f1_delete ((8 : Int64) + (((XT.ushr x3 (4 : Int32)) &&& (7 : Int32)).toInt64)) (own_f0_4 x0 x1 x2 x3))))) 0 fs49 mx49 am49 lb57 (Int32.ofNat ixn57) iA S57 t59 (own_mem (own_setJ (fun _ => 0) 0 x2) 0 x1) n0 T57.heap B57 I57 (IV57.1.ok (by decide)) hm59 ht59 hr59) (by decide) (W := 1) (by decide) (by decide) (by decide) (g := (mkF m 256 #[.val (.long x0), .second, .val (.long x1), .second, .val (.long x2), .second, .val (.int x3), .val (.int (own_f0_1 x0 x1 x2 x3)), .val (.int (x3 &&& (3 : Int32))), .val (.int (own_f0_2 x0 x1 x2 x3)), .val (.int (own_f0_3 x0 x1 x2 x3)), .val (.ref a5), .val (.ref a17), .val (.int (1 : Int32))] [(.long x1), (.ref a17), (.int (1 : Int32))])) rfl (by rw [hml]; rfl) (argsL := [(.long x1)]) (rest := [(.int (1 : Int32))]) (lenOf pd_8 rfl) rfl (by show 2 * 0 + _ ≤ _; exact Nat.le_of_eq rfl) (hb hby at_256)
                    obtain ⟨e59, X59⟩ := own_clean q59 Y59 rfl rfl
                    obtain ⟨rfl, -, -⟩ := q59
                    refine own_Goes.step st59 ?_
                    show own_Goes _ _ _ _ _ _ _ (T59.setTop (mkF m 259 #[.val (.long x0), .second, .val (.long x1), .second, .val (.long x2), .second, .val (.int x3), .val (.int (own_f0_1 x0 x1 x2 x3)), .val (.int (x3 &&& (3 : Int32))), .val (.int (own_f0_2 x0 x1 x2 x3)), .val (.int (own_f0_3 x0 x1 x2 x3)), .val (.ref a5), .val (.ref a17), .val (.int (1 : Int32))] [(.int (own_bi (own_mem (own_setJ (fun _ => 0) 0 x2) 0 x1))), (.int (1 : Int32))]))
                    refine own_Goes.step (fun tq kq => XT.lloadN X59.here hx rfl (hb hby at_259) rfl kq) ?_
                    show own_Goes _ _ _ _ _ _ _ (T59.setTop (mkF m 260 #[.val (.long x0), .second, .val (.long x1), .second, .val (.long x2), .second, .val (.int x3), .val (.int (own_f0_1 x0 x1 x2 x3)), .val (.int (x3 &&& (3 : Int32))), .val (.int (own_f0_2 x0 x1 x2 x3)), .val (.int (own_f0_3 x0 x1 x2 x3)), .val (.ref a5), .val (.ref a17), .val (.int (1 : Int32))] [(.long x1), (.int (own_bi (own_mem (own_setJ (fun _ => 0) 0 x2) 0 x1))), (.int (1 : Int32))]))
                    refine own_Goes.step (fun tq kq => XT.lloadN X59.here hx rfl (hb hby at_260) rfl kq) ?_
                    show own_Goes _ _ _ _ _ _ _ (T59.setTop (mkF m 261 #[.val (.long x0), .second, .val (.long x1), .second, .val (.long x2), .second, .val (.int x3), .val (.int (own_f0_1 x0 x1 x2 x3)), .val (.int (x3 &&& (3 : Int32))), .val (.int (own_f0_2 x0 x1 x2 x3)), .val (.int (own_f0_3 x0 x1 x2 x3)), .val (.ref a5), .val (.ref a17), .val (.int (1 : Int32))] [(.long x0), (.long x1), (.int (own_bi (own_mem (own_setJ (fun _ => 0) 0 x2) 0 x1))), (.int (1 : Int32))]))
                    refine own_Goes.step (fun tq kq => XT.lloadN X59.here hx rfl (hb hby at_261) rfl kq) ?_
                    show own_Goes _ _ _ _ _ _ _ (T59.setTop (mkF m 262 #[.val (.long x0), .second, .val (.long x1), .second, .val (.long x2), .second, .val (.int x3), .val (.int (own_f0_1 x0 x1 x2 x3)), .val (.int (x3 &&& (3 : Int32))), .val (.int (own_f0_2 x0 x1 x2 x3)), .val (.int (own_f0_3 x0 x1 x2 x3)), .val (.ref a5), .val (.ref a17), .val (.int (1 : Int32))] [(.long x1), (.long x0), (.long x1), (.int (own_bi (own_mem (own_setJ (fun _ => 0) 0 x2) 0 x1))), (.int (1 : Int32))]))
                    refine own_Goes.step (fun tq kq => XS.iload X59.here hx rfl (hb hby at_262) rfl kq) ?_
                    show own_Goes _ _ _ _ _ _ _ (T59.setTop (mkF m 264 #[.val (.long x0), .second, .val (.long x1), .second, .val (.long x2), .second, .val (.int x3), .val (.int (own_f0_1 x0 x1 x2 x3)), .val (.int (x3 &&& (3 : Int32))), .val (.int (own_f0_2 x0 x1 x2 x3)), .val (.int (own_f0_3 x0 x1 x2 x3)), .val (.ref a5), .val (.ref a17), .val (.int (1 : Int32))] [(.int (own_f0_1 x0 x1 x2 x3)), (.long x1), (.long x0), (.long x1), (.int (own_bi (own_mem (own_setJ (fun _ => 0) 0 x2) 0 x1))), (.int (1 : Int32))]))
                    obtain ⟨w60, T60, L60, q60, Y60, st60⟩ := own_stat X59 hx hZ e59 hown (own_at hw 99 rfl) (own_at hw 100 rfl) (own_at hw 101 rfl) (own_at hw 102 rfl) (by decide) (own_m15 l Z a0 hw [] x1 x0 x1 (own_f0_1 x0 x1 x2 x3) T57.heap ) (by decide) (W := 2) (by decide) (by decide) (by decide) (g := (mkF m 264 #[.val (.long x0), .second, .val (.long x1), .second, .val (.long x2), .second, .val (.int x3), .val (.int (own_f0_1 x0 x1 x2 x3)), .val (.int (x3 &&& (3 : Int32))), .val (.int (own_f0_2 x0 x1 x2 x3)), .val (.int (own_f0_3 x0 x1 x2 x3)), .val (.ref a5), .val (.ref a17), .val (.int (1 : Int32))] [(.int (own_f0_1 x0 x1 x2 x3)), (.long x1), (.long x0), (.long x1), (.int (own_bi (own_mem (own_setJ (fun _ => 0) 0 x2) 0 x1))), (.int (1 : Int32))])) rfl (by rw [hml]; rfl) (argsL := [(.long x1), (.long x0), (.long x1), (.int (own_f0_1 x0 x1 x2 x3))]) (rest := [(.int (own_bi (own_mem (own_setJ (fun _ => 0) 0 x2) 0 x1))), (.int (1 : Int32))]) (lenOf pd_15 rfl) rfl (by show 2 * 0 + _ ≤ _; exact Nat.le_of_eq rfl) (hb hby at_264)
                    obtain ⟨e60, X60⟩ := own_clean q60 Y60 rfl rfl
                    obtain ⟨rfl, -, -⟩ := q60
                    refine own_Goes.step st60 ?_
                    show own_Goes _ _ _ _ _ _ _ (T60.setTop (mkF m 267 #[.val (.long x0), .second, .val (.long x1), .second, .val (.long x2), .second, .val (.int x3), .val (.int (own_f0_1 x0 x1 x2 x3)), .val (.int (x3 &&& (3 : Int32))), .val (.int (own_f0_2 x0 x1 x2 x3)), .val (.int (own_f0_3 x0 x1 x2 x3)), .val (.ref a5), .val (.ref a17), .val (.int (1 : Int32))] [(.int (own_f15 x1 x0 x1 (own_f0_1 x0 x1 x2 x3))), (.int (own_bi (own_mem (own_setJ (fun _ => 0) 0 x2) 0 x1))), (.int (1 : Int32))]))
                    refine own_Goes.step (fun tq kq => XS.icmpNo X60.here hx rfl (hb hby at_267) rfl (XT.ii_ne_f (own_held0  hc38)) kq) ?_
                    show own_Goes _ _ _ _ _ _ _ (T60.setTop (mkF m 270 #[.val (.long x0), .second, .val (.long x1), .second, .val (.long x2), .second, .val (.int x3), .val (.int (own_f0_1 x0 x1 x2 x3)), .val (.int (x3 &&& (3 : Int32))), .val (.int (own_f0_2 x0 x1 x2 x3)), .val (.int (own_f0_3 x0 x1 x2 x3)), .val (.ref a5), .val (.ref a17), .val (.int (1 : Int32))] [(.int (1 : Int32))]))
                    refine own_Goes.step (fun tq kq => XT.iconstV X60.here hx rfl (1 : Int32) (hb hby at_270) (by decide) kq) ?_
                    show own_Goes _ _ _ _ _ _ _ (T60.setTop (mkF m 271 #[.val (.long x0), .second, .val (.long x1), .second, .val (.long x2), .second, .val (.int x3), .val (.int (own_f0_1 x0 x1 x2 x3)), .val (.int (x3 &&& (3 : Int32))), .val (.int (own_f0_2 x0 x1 x2 x3)), .val (.int (own_f0_3 x0 x1 x2 x3)), .val (.ref a5), .val (.ref a17), .val (.int (1 : Int32))] [(.int (1 : Int32)), (.int (1 : Int32))]))
                    refine own_Goes.step (fun tq kq => XS.goto X60.here hx rfl (pc0 := 271) (pc' := 275) rfl (hb hby at_271) (by decide) (by decide) kq) ?_
                    show own_Goes _ _ _ _ _ _ _ (T60.setTop (mkF m 275 #[.val (.long x0), .second, .val (.long x1), .second, .val (.long x2), .second, .val (.int x3), .val (.int (own_f0_1 x0 x1 x2 x3)), .val (.int (x3 &&& (3 : Int32))), .val (.int (own_f0_2 x0 x1 x2 x3)), .val (.int (own_f0_3 x0 x1 x2 x3)), .val (.ref a5), .val (.ref a17), .val (.int (1 : Int32))] [(.int (1 : Int32)), (.int (1 : Int32))]))
                    refine own_Goes.step (fun tq kq => XS.iand X60.here hx rfl (hb hby at_275) rfl kq) ?_
                    show own_Goes _ _ _ _ _ _ _ (T60.setTop (mkF m 276 #[.val (.long x0), .second, .val (.long x1), .second, .val (.long x2), .second, .val (.int x3), .val (.int (own_f0_1 x0 x1 x2 x3)), .val (.int (x3 &&& (3 : Int32))), .val (.int (own_f0_2 x0 x1 x2 x3)), .val (.int (own_f0_3 x0 x1 x2 x3)), .val (.ref a5), .val (.ref a17), .val (.int (1 : Int32))] [(.int (1 : Int32))]))
                    refine own_Goes.step (fun tq kq => XS.istore X60.here hx rfl (hb hby at_276) rfl (l' := #[.val (.long x0), .second, .val (.long x1), .second, .val (.long x2), .second, .val (.int x3), .val (.int (own_f0_1 x0 x1 x2 x3)), .val (.int (x3 &&& (3 : Int32))), .val (.int (own_f0_2 x0 x1 x2 x3)), .val (.int (own_f0_3 x0 x1 x2 x3)), .val (.ref a5), .val (.ref a17), .val (.int (1 : Int32))]) rfl kq) ?_
                    show own_Goes _ _ _ _ _ _ _ (T60.setTop (mkF m 278 #[.val (.long x0), .second, .val (.long x1), .second, .val (.long x2), .second, .val (.int x3), .val (.int (own_f0_1 x0 x1 x2 x3)), .val (.int (x3 &&& (3 : Int32))), .val (.int (own_f0_2 x0 x1 x2 x3)), .val (.int (own_f0_3 x0 x1 x2 x3)), .val (.ref a5), .val (.ref a17), .val (.int (1 : Int32))] []))
                    refine own_Goes.step (fun tq kq => XS.iload X60.here hx rfl (hb hby at_278) rfl kq) ?_
                    show own_Goes _ _ _ _ _ _ _ (T60.setTop (mkF m 280 #[.val (.long x0), .second, .val (.long x1), .second, .val (.long x2), .second, .val (.int x3), .val (.int (own_f0_1 x0 x1 x2 x3)), .val (.int (x3 &&& (3 : Int32))), .val (.int (own_f0_2 x0 x1 x2 x3)), .val (.int (own_f0_3 x0 x1 x2 x3)), .val (.ref a5), .val (.ref a17), .val (.int (1 : Int32))] [(.int (1 : Int32))]))
                    refine own_Goes.step (fun tq kq => XS.aload X60.here hx rfl (hb hby at_280) rfl rfl kq) ?_
                    show own_Goes _ _ _ _ _ _ _ (T60.setTop (mkF m 282 #[.val (.long x0), .second, .val (.long x1), .second, .val (.long x2), .second, .val (.int x3), .val (.int (own_f0_1 x0 x1 x2 x3)), .val (.int (x3 &&& (3 : Int32))), .val (.int (own_f0_2 x0 x1 x2 x3)), .val (.int (own_f0_3 x0 x1 x2 x3)), .val (.ref a5), .val (.ref a17), .val (.int (1 : Int32))] [(.ref a17), (.int (1 : Int32))]))
                    refine own_Goes.step (fun tq kq => XT.lload X60.here hx rfl (hb hby at_282) rfl kq) ?_
                    show own_Goes _ _ _ _ _ _ _ (T60.setTop (mkF m 284 #[.val (.long x0), .second, .val (.long x1), .second, .val (.long x2), .second, .val (.int x3), .val (.int (own_f0_1 x0 x1 x2 x3)), .val (.int (x3 &&& (3 : Int32))), .val (.int (own_f0_2 x0 x1 x2 x3)), .val (.int (own_f0_3 x0 x1 x2 x3)), .val (.ref a5), .val (.ref a17), .val (.int (1 : Int32))] [(.long x2), (.ref a17), (.int (1 : Int32))]))
                    obtain ⟨t61, ht61, hm61⟩ := IV57.find (by decide) x2
                    have hr61 := IV57.says hm61
                    obtain ⟨w61, T61, L61, q61, Y61, st61⟩ := own_virt X60 hx hZ e60 (own_W.exa B57) hown (own_at hw 64 rfl) (own_at hw 65 rfl) (own_at hw 67 rfl) (own_at hw 66 rfl) (own_at hw 21 rfl) (own_at hw 68 rfl) (by decide) (own_m8s l Z a0 hw [] a17 x2 kA sA dA pA (own_setJ (fun _ => 0) 0 x2) (own_setJ (fun _ => 0) 0 (own_f1_size ((8 : Int64) + (((XT.ushr x3 (4 : Int32)) &&& (7 : Int32)).toInt64)) (own_f0_4 x0 x1 x2 x3))) (own_set (fun _ => 0) 0 (nar .boolean (own_f7 (own_f1_delete ((8 : Int64) + (((XT.ushr x3 (4 : Int32)) &&& (7 : Int32)).toInt64)) (own_f0_4 x0 x1 x2 x3))))) 0 fs49 mx49 am49 lb57 (Int32.ofNat ixn57) iA S57 t61 (own_mem (own_setJ (fun _ => 0) 0 x2) 0 x2) n0 T57.heap B57 I57 (IV57.1.ok (by decide)) hm61 ht61 hr61) (by decide) (W := 1) (by decide) (by decide) (by decide) (g := (mkF m 284 #[.val (.long x0), .second, .val (.long x1), .second, .val (.long x2), .second, .val (.int x3), .val (.int (own_f0_1 x0 x1 x2 x3)), .val (.int (x3 &&& (3 : Int32))), .val (.int (own_f0_2 x0 x1 x2 x3)), .val (.int (own_f0_3 x0 x1 x2 x3)), .val (.ref a5), .val (.ref a17), .val (.int (1 : Int32))] [(.long x2), (.ref a17), (.int (1 : Int32))])) rfl (by rw [hml]; rfl) (argsL := [(.long x2)]) (rest := [(.int (1 : Int32))]) (lenOf pd_8 rfl) rfl (by show 2 * 0 + _ ≤ _; exact Nat.le_of_eq rfl) (hb hby at_284)
                    obtain ⟨e61, X61⟩ := own_clean q61 Y61 rfl rfl
                    obtain ⟨rfl, -, -⟩ := q61
                    refine own_Goes.step st61 ?_
                    show own_Goes _ _ _ _ _ _ _ (T61.setTop (mkF m 287 #[.val (.long x0), .second, .val (.long x1), .second, .val (.long x2), .second, .val (.int x3), .val (.int (own_f0_1 x0 x1 x2 x3)), .val (.int (x3 &&& (3 : Int32))), .val (.int (own_f0_2 x0 x1 x2 x3)), .val (.int (own_f0_3 x0 x1 x2 x3)), .val (.ref a5), .val (.ref a17), .val (.int (1 : Int32))] [(.int (own_bi (own_mem (own_setJ (fun _ => 0) 0 x2) 0 x2))), (.int (1 : Int32))]))
                    refine own_Goes.step (fun tq kq => XT.lload X61.here hx rfl (hb hby at_287) rfl kq) ?_
                    show own_Goes _ _ _ _ _ _ _ (T61.setTop (mkF m 289 #[.val (.long x0), .second, .val (.long x1), .second, .val (.long x2), .second, .val (.int x3), .val (.int (own_f0_1 x0 x1 x2 x3)), .val (.int (x3 &&& (3 : Int32))), .val (.int (own_f0_2 x0 x1 x2 x3)), .val (.int (own_f0_3 x0 x1 x2 x3)), .val (.ref a5), .val (.ref a17), .val (.int (1 : Int32))] [(.long x2), (.int (own_bi (own_mem (own_setJ (fun _ => 0) 0 x2) 0 x2))), (.int (1 : Int32))]))
                    refine own_Goes.step (fun tq kq => XT.lloadN X61.here hx rfl (hb hby at_289) rfl kq) ?_
                    show own_Goes _ _ _ _ _ _ _ (T61.setTop (mkF m 290 #[.val (.long x0), .second, .val (.long x1), .second, .val (.long x2), .second, .val (.int x3), .val (.int (own_f0_1 x0 x1 x2 x3)), .val (.int (x3 &&& (3 : Int32))), .val (.int (own_f0_2 x0 x1 x2 x3)), .val (.int (own_f0_3 x0 x1 x2 x3)), .val (.ref a5), .val (.ref a17), .val (.int (1 : Int32))] [(.long x0), (.long x2), (.int (own_bi (own_mem (own_setJ (fun _ => 0) 0 x2) 0 x2))), (.int (1 : Int32))]))
                    refine own_Goes.step (fun tq kq => XT.lloadN X61.here hx rfl (hb hby at_290) rfl kq) ?_
                    show own_Goes _ _ _ _ _ _ _ (T61.setTop (mkF m 291 #[.val (.long x0), .second, .val (.long x1), .second, .val (.long x2), .second, .val (.int x3), .val (.int (own_f0_1 x0 x1 x2 x3)), .val (.int (x3 &&& (3 : Int32))), .val (.int (own_f0_2 x0 x1 x2 x3)), .val (.int (own_f0_3 x0 x1 x2 x3)), .val (.ref a5), .val (.ref a17), .val (.int (1 : Int32))] [(.long x1), (.long x0), (.long x2), (.int (own_bi (own_mem (own_setJ (fun _ => 0) 0 x2) 0 x2))), (.int (1 : Int32))]))
                    refine own_Goes.step (fun tq kq => XS.iload X61.here hx rfl (hb hby at_291) rfl kq) ?_
                    show own_Goes _ _ _ _ _ _ _ (T61.setTop (mkF m 293 #[.val (.long x0), .second, .val (.long x1), .second, .val (.long x2), .second, .val (.int x3), .val (.int (own_f0_1 x0 x1 x2 x3)), .val (.int (x3 &&& (3 : Int32))), .val (.int (own_f0_2 x0 x1 x2 x3)), .val (.int (own_f0_3 x0 x1 x2 x3)), .val (.ref a5), .val (.ref a17), .val (.int (1 : Int32))] [(.int (own_f0_1 x0 x1 x2 x3)), (.long x1), (.long x0), (.long x2), (.int (own_bi (own_mem (own_setJ (fun _ => 0) 0 x2) 0 x2))), (.int (1 : Int32))]))
                    obtain ⟨w62, T62, L62, q62, Y62, st62⟩ := own_stat X61 hx hZ e61 hown (own_at hw 99 rfl) (own_at hw 100 rfl) (own_at hw 101 rfl) (own_at hw 102 rfl) (by decide) (own_m15 l Z a0 hw [] x2 x0 x1 (own_f0_1 x0 x1 x2 x3) T57.heap ) (by decide) (W := 2) (by decide) (by decide) (by decide) (g := (mkF m 293 #[.val (.long x0), .second, .val (.long x1), .second, .val (.long x2), .second, .val (.int x3), .val (.int (own_f0_1 x0 x1 x2 x3)), .val (.int (x3 &&& (3 : Int32))), .val (.int (own_f0_2 x0 x1 x2 x3)), .val (.int (own_f0_3 x0 x1 x2 x3)), .val (.ref a5), .val (.ref a17), .val (.int (1 : Int32))] [(.int (own_f0_1 x0 x1 x2 x3)), (.long x1), (.long x0), (.long x2), (.int (own_bi (own_mem (own_setJ (fun _ => 0) 0 x2) 0 x2))), (.int (1 : Int32))])) rfl (by rw [hml]; rfl) (argsL := [(.long x2), (.long x0), (.long x1), (.int (own_f0_1 x0 x1 x2 x3))]) (rest := [(.int (own_bi (own_mem (own_setJ (fun _ => 0) 0 x2) 0 x2))), (.int (1 : Int32))]) (lenOf pd_15 rfl) rfl (by show 2 * 0 + _ ≤ _; exact Nat.le_of_eq rfl) (hb hby at_293)
                    obtain ⟨e62, X62⟩ := own_clean q62 Y62 rfl rfl
                    obtain ⟨rfl, -, -⟩ := q62
                    refine own_Goes.step st62 ?_
                    show own_Goes _ _ _ _ _ _ _ (T62.setTop (mkF m 296 #[.val (.long x0), .second, .val (.long x1), .second, .val (.long x2), .second, .val (.int x3), .val (.int (own_f0_1 x0 x1 x2 x3)), .val (.int (x3 &&& (3 : Int32))), .val (.int (own_f0_2 x0 x1 x2 x3)), .val (.int (own_f0_3 x0 x1 x2 x3)), .val (.ref a5), .val (.ref a17), .val (.int (1 : Int32))] [(.int (own_f15 x2 x0 x1 (own_f0_1 x0 x1 x2 x3))), (.int (own_bi (own_mem (own_setJ (fun _ => 0) 0 x2) 0 x2))), (.int (1 : Int32))]))
                    refine own_Goes.step (fun tq kq => XS.icmpNo X62.here hx rfl (hb hby at_296) rfl (XT.ii_ne_f (own_held0  hc38)) kq) ?_
                    show own_Goes _ _ _ _ _ _ _ (T62.setTop (mkF m 299 #[.val (.long x0), .second, .val (.long x1), .second, .val (.long x2), .second, .val (.int x3), .val (.int (own_f0_1 x0 x1 x2 x3)), .val (.int (x3 &&& (3 : Int32))), .val (.int (own_f0_2 x0 x1 x2 x3)), .val (.int (own_f0_3 x0 x1 x2 x3)), .val (.ref a5), .val (.ref a17), .val (.int (1 : Int32))] [(.int (1 : Int32))]))
                    refine own_Goes.step (fun tq kq => XT.iconstV X62.here hx rfl (1 : Int32) (hb hby at_299) (by decide) kq) ?_
                    show own_Goes _ _ _ _ _ _ _ (T62.setTop (mkF m 300 #[.val (.long x0), .second, .val (.long x1), .second, .val (.long x2), .second, .val (.int x3), .val (.int (own_f0_1 x0 x1 x2 x3)), .val (.int (x3 &&& (3 : Int32))), .val (.int (own_f0_2 x0 x1 x2 x3)), .val (.int (own_f0_3 x0 x1 x2 x3)), .val (.ref a5), .val (.ref a17), .val (.int (1 : Int32))] [(.int (1 : Int32)), (.int (1 : Int32))]))
                    refine own_Goes.step (fun tq kq => XS.goto X62.here hx rfl (pc0 := 300) (pc' := 304) rfl (hb hby at_300) (by decide) (by decide) kq) ?_
                    show own_Goes _ _ _ _ _ _ _ (T62.setTop (mkF m 304 #[.val (.long x0), .second, .val (.long x1), .second, .val (.long x2), .second, .val (.int x3), .val (.int (own_f0_1 x0 x1 x2 x3)), .val (.int (x3 &&& (3 : Int32))), .val (.int (own_f0_2 x0 x1 x2 x3)), .val (.int (own_f0_3 x0 x1 x2 x3)), .val (.ref a5), .val (.ref a17), .val (.int (1 : Int32))] [(.int (1 : Int32)), (.int (1 : Int32))]))
                    refine own_Goes.step (fun tq kq => XS.iand X62.here hx rfl (hb hby at_304) rfl kq) ?_
                    show own_Goes _ _ _ _ _ _ _ (T62.setTop (mkF m 305 #[.val (.long x0), .second, .val (.long x1), .second, .val (.long x2), .second, .val (.int x3), .val (.int (own_f0_1 x0 x1 x2 x3)), .val (.int (x3 &&& (3 : Int32))), .val (.int (own_f0_2 x0 x1 x2 x3)), .val (.int (own_f0_3 x0 x1 x2 x3)), .val (.ref a5), .val (.ref a17), .val (.int (1 : Int32))] [(.int (1 : Int32))]))
                    refine own_Goes.step (fun tq kq => XS.istore X62.here hx rfl (hb hby at_305) rfl (l' := #[.val (.long x0), .second, .val (.long x1), .second, .val (.long x2), .second, .val (.int x3), .val (.int (own_f0_1 x0 x1 x2 x3)), .val (.int (x3 &&& (3 : Int32))), .val (.int (own_f0_2 x0 x1 x2 x3)), .val (.int (own_f0_3 x0 x1 x2 x3)), .val (.ref a5), .val (.ref a17), .val (.int (1 : Int32))]) rfl kq) ?_
                    show own_Goes _ _ _ _ _ _ _ (T62.setTop (mkF m 307 #[.val (.long x0), .second, .val (.long x1), .second, .val (.long x2), .second, .val (.int x3), .val (.int (own_f0_1 x0 x1 x2 x3)), .val (.int (x3 &&& (3 : Int32))), .val (.int (own_f0_2 x0 x1 x2 x3)), .val (.int (own_f0_3 x0 x1 x2 x3)), .val (.ref a5), .val (.ref a17), .val (.int (1 : Int32))] []))
                    refine own_Goes.step (fun tq kq => XS.iload X62.here hx rfl (hb hby at_307) rfl kq) ?_
                    show own_Goes _ _ _ _ _ _ _ (T62.setTop (mkF m 309 #[.val (.long x0), .second, .val (.long x1), .second, .val (.long x2), .second, .val (.int x3), .val (.int (own_f0_1 x0 x1 x2 x3)), .val (.int (x3 &&& (3 : Int32))), .val (.int (own_f0_2 x0 x1 x2 x3)), .val (.int (own_f0_3 x0 x1 x2 x3)), .val (.ref a5), .val (.ref a17), .val (.int (1 : Int32))] [(.int (1 : Int32))]))
                    exact own_endN X62 hx Bd.notSynchronized (t := .boolean) Bd.returns (by simp) (hb hby at_309) ⟨rfl, Nn57⟩ (by decide) (by decide)
                  by_cases hc56 : (own_f0_1 x0 x1 x2 x3) = (0 : Int32)
                  · refine own_Goes.step (fun tq kq => XS.ifNo X55.here hx rfl (hb hby at_205) rfl (XT.i0_ne_f hc56) kq) ?_
                    show own_Goes _ _ _ _ _ _ _ (T55.setTop (mkF m 208 #[.val (.long x0), .second, .val (.long x1), .second, .val (.long x2), .second, .val (.int x3), .val (.int (own_f0_1 x0 x1 x2 x3)), .val (.int (x3 &&& (3 : Int32))), .val (.int (own_f0_2 x0 x1 x2 x3)), .val (.int (own_f0_3 x0 x1 x2 x3)), .val (.ref a5), .val (.ref a17), .val (.int (1 : Int32))] [(.int (own_f14 (Int32.ofNat 0))), (.int (1 : Int32))]))
                    refine own_Goes.step (fun tq kq => XT.iconstV X55.here hx rfl (1 : Int32) (hb hby at_208) (by decide) kq) ?_
                    show own_Goes _ _ _ _ _ _ _ (T55.setTop (mkF m 209 #[.val (.long x0), .second, .val (.long x1), .second, .val (.long x2), .second, .val (.int x3), .val (.int (own_f0_1 x0 x1 x2 x3)), .val (.int (x3 &&& (3 : Int32))), .val (.int (own_f0_2 x0 x1 x2 x3)), .val (.int (own_f0_3 x0 x1 x2 x3)), .val (.ref a5), .val (.ref a17), .val (.int (1 : Int32))] [(.int (1 : Int32)), (.int (own_f14 (Int32.ofNat 0))), (.int (1 : Int32))]))
                    refine own_Goes.step (fun tq kq => XS.goto X55.here hx rfl (pc0 := 209) (pc' := 213) rfl (hb hby at_209) (by decide) (by decide) kq) ?_
                    show own_Goes _ _ _ _ _ _ _ (T55.setTop (mkF m 213 #[.val (.long x0), .second, .val (.long x1), .second, .val (.long x2), .second, .val (.int x3), .val (.int (own_f0_1 x0 x1 x2 x3)), .val (.int (x3 &&& (3 : Int32))), .val (.int (own_f0_2 x0 x1 x2 x3)), .val (.int (own_f0_3 x0 x1 x2 x3)), .val (.ref a5), .val (.ref a17), .val (.int (1 : Int32))] [(.int (1 : Int32)), (.int (own_f14 (Int32.ofNat 0))), (.int (1 : Int32))]))
                    rw [show (own_f0_5 x0 x1 x2 x3) = (1 : Int32) from by simp only [own_f0_5, if_pos hc56]] at J63
                    exact J63
                  · refine own_Goes.step (fun tq kq => XS.ifYes X55.here hx rfl (pc0 := 205) (pc' := 212) rfl (hb hby at_205) rfl (XT.i0_ne_t hc56) (by decide) (by decide) kq) ?_
                    show own_Goes _ _ _ _ _ _ _ (T55.setTop (mkF m 212 #[.val (.long x0), .second, .val (.long x1), .second, .val (.long x2), .second, .val (.int x3), .val (.int (own_f0_1 x0 x1 x2 x3)), .val (.int (x3 &&& (3 : Int32))), .val (.int (own_f0_2 x0 x1 x2 x3)), .val (.int (own_f0_3 x0 x1 x2 x3)), .val (.ref a5), .val (.ref a17), .val (.int (1 : Int32))] [(.int (own_f14 (Int32.ofNat 0))), (.int (1 : Int32))]))
                    refine own_Goes.step (fun tq kq => XT.iconstV X55.here hx rfl (0 : Int32) (hb hby at_212) (by decide) kq) ?_
                    show own_Goes _ _ _ _ _ _ _ (T55.setTop (mkF m 213 #[.val (.long x0), .second, .val (.long x1), .second, .val (.long x2), .second, .val (.int x3), .val (.int (own_f0_1 x0 x1 x2 x3)), .val (.int (x3 &&& (3 : Int32))), .val (.int (own_f0_2 x0 x1 x2 x3)), .val (.int (own_f0_3 x0 x1 x2 x3)), .val (.ref a5), .val (.ref a17), .val (.int (1 : Int32))] [(.int (0 : Int32)), (.int (own_f14 (Int32.ofNat 0))), (.int (1 : Int32))]))
                    rw [show (own_f0_5 x0 x1 x2 x3) = (0 : Int32) from by simp only [own_f0_5, if_neg hc56]] at J63
                    exact J63
                · refine own_Goes.step (fun tq kq => XS.ifNo Y49.here hx rfl (hb hby at_176) rfl (XT.i0_eq_f hc53) kq) ?_
                  show own_Goes _ _ _ _ _ _ _ (T49.setTop (mkF m 179 #[.val (.long x0), .second, .val (.long x1), .second, .val (.long x2), .second, .val (.int x3), .val (.int (own_f0_1 x0 x1 x2 x3)), .val (.int (x3 &&& (3 : Int32))), .val (.int (own_f0_2 x0 x1 x2 x3)), .val (.int (own_f0_3 x0 x1 x2 x3)), .val (.ref a5), .val (.ref a17), .val (.int (1 : Int32))] []))
                  refine own_Goes.step (fun tq kq => XS.iload Y49.here hx rfl (hb hby at_179) rfl kq) ?_
                  show own_Goes _ _ _ _ _ _ _ (T49.setTop (mkF m 181 #[.val (.long x0), .second, .val (.long x1), .second, .val (.long x2), .second, .val (.int x3), .val (.int (own_f0_1 x0 x1 x2 x3)), .val (.int (x3 &&& (3 : Int32))), .val (.int (own_f0_2 x0 x1 x2 x3)), .val (.int (own_f0_3 x0 x1 x2 x3)), .val (.ref a5), .val (.ref a17), .val (.int (1 : Int32))] [(.int (1 : Int32))]))
                  refine own_Goes.step (fun tq kq => XS.aload Y49.here hx rfl (hb hby at_181) rfl rfl kq) ?_
                  show own_Goes _ _ _ _ _ _ _ (T49.setTop (mkF m 183 #[.val (.long x0), .second, .val (.long x1), .second, .val (.long x2), .second, .val (.int x3), .val (.int (own_f0_1 x0 x1 x2 x3)), .val (.int (x3 &&& (3 : Int32))), .val (.int (own_f0_2 x0 x1 x2 x3)), .val (.int (own_f0_3 x0 x1 x2 x3)), .val (.ref a5), .val (.ref a17), .val (.int (1 : Int32))] [(.ref a17), (.int (1 : Int32))]))
                  refine own_Goes.step (fun tq kq => XT.lload Y49.here hx rfl (hb hby at_183) rfl kq) ?_
                  show own_Goes _ _ _ _ _ _ _ (T49.setTop (mkF m 185 #[.val (.long x0), .second, .val (.long x1), .second, .val (.long x2), .second, .val (.int x3), .val (.int (own_f0_1 x0 x1 x2 x3)), .val (.int (x3 &&& (3 : Int32))), .val (.int (own_f0_2 x0 x1 x2 x3)), .val (.int (own_f0_3 x0 x1 x2 x3)), .val (.ref a5), .val (.ref a17), .val (.int (1 : Int32))] [(.long x2), (.ref a17), (.int (1 : Int32))]))
                  obtain ⟨w64, T64, L64, q64, Y64, st64⟩ := own_virt Y49 hx hZ rfl (own_W.exa B49) hown (own_at hw 64 rfl) (own_at hw 65 rfl) (own_at hw 67 rfl) (own_at hw 66 rfl) (own_at hw 21 rfl) (own_at hw 68 rfl) (by decide) (own_m8n l Z a0 hw [] a17 x2 kA sA dA pA (own_setJ (fun _ => 0) 0 x2) (own_setJ (fun _ => 0) 0 (own_f1_size ((8 : Int64) + (((XT.ushr x3 (4 : Int32)) &&& (7 : Int32)).toInt64)) (own_f0_4 x0 x1 x2 x3))) (own_set (fun _ => 0) 0 (nar .boolean (own_f7 (own_f1_delete ((8 : Int64) + (((XT.ushr x3 (4 : Int32)) &&& (7 : Int32)).toInt64)) (own_f0_4 x0 x1 x2 x3))))) 1 fs49 mx49 am49 (-1 : Int32) 0 n0 T49.heap B49 (by decide)) (by decide) (W := 1) (by decide) (by decide) (by decide) (g := (mkF m 185 #[.val (.long x0), .second, .val (.long x1), .second, .val (.long x2), .second, .val (.int x3), .val (.int (own_f0_1 x0 x1 x2 x3)), .val (.int (x3 &&& (3 : Int32))), .val (.int (own_f0_2 x0 x1 x2 x3)), .val (.int (own_f0_3 x0 x1 x2 x3)), .val (.ref a5), .val (.ref a17), .val (.int (1 : Int32))] [(.long x2), (.ref a17), (.int (1 : Int32))])) rfl (by rw [hml]; rfl) (argsL := [(.long x2)]) (rest := [(.int (1 : Int32))]) (lenOf pd_8 rfl) rfl (by show 2 * 0 + _ ≤ _; exact Nat.le_of_eq rfl) (hb hby at_185)
                  obtain ⟨rfl, N64, K64, iA, S64, ixn64, lb64, hbl64, hiA64, B64, I64⟩ := q64
                  have Nn64 := Fr.app Nn49 N64
                  have IV64 := own_bld_inv (by decide) hbl64
                  have en_iA : a5 ≠ iA := Nat.ne_of_lt (Nat.lt_of_lt_of_le f50.lt hiA64)
                  have f65 := f50.keep K64
                  have f66 := f51.keep K64 (own_nin en_w)
                  have f67 := f52.keep K64 (own_nin en_w)
                  rw [show own_bi (own_mem (own_setJ (fun _ => 0) 0 x2) 1 x2) = (1 : Int32) from own_hit rfl] at st64
                  refine own_Goes.step st64 ?_
                  show own_Goes _ _ _ _ _ _ _ (T64.setTop (mkF m 188 #[.val (.long x0), .second, .val (.long x1), .second, .val (.long x2), .second, .val (.int x3), .val (.int (own_f0_1 x0 x1 x2 x3)), .val (.int (x3 &&& (3 : Int32))), .val (.int (own_f0_2 x0 x1 x2 x3)), .val (.int (own_f0_3 x0 x1 x2 x3)), .val (.ref a5), .val (.ref a17), .val (.int (1 : Int32))] [(.int (1 : Int32)), (.int (1 : Int32))]))
                  refine own_Goes.step (fun tq kq => XS.iand Y64.here hx rfl (hb hby at_188) rfl kq) ?_
                  show own_Goes _ _ _ _ _ _ _ (T64.setTop (mkF m 189 #[.val (.long x0), .second, .val (.long x1), .second, .val (.long x2), .second, .val (.int x3), .val (.int (own_f0_1 x0 x1 x2 x3)), .val (.int (x3 &&& (3 : Int32))), .val (.int (own_f0_2 x0 x1 x2 x3)), .val (.int (own_f0_3 x0 x1 x2 x3)), .val (.ref a5), .val (.ref a17), .val (.int (1 : Int32))] [(.int (1 : Int32))]))
                  refine own_Goes.step (fun tq kq => XS.istore Y64.here hx rfl (hb hby at_189) rfl (l' := #[.val (.long x0), .second, .val (.long x1), .second, .val (.long x2), .second, .val (.int x3), .val (.int (own_f0_1 x0 x1 x2 x3)), .val (.int (x3 &&& (3 : Int32))), .val (.int (own_f0_2 x0 x1 x2 x3)), .val (.int (own_f0_3 x0 x1 x2 x3)), .val (.ref a5), .val (.ref a17), .val (.int (1 : Int32))]) rfl kq) ?_
                  show own_Goes _ _ _ _ _ _ _ (T64.setTop (mkF m 191 #[.val (.long x0), .second, .val (.long x1), .second, .val (.long x2), .second, .val (.int x3), .val (.int (own_f0_1 x0 x1 x2 x3)), .val (.int (x3 &&& (3 : Int32))), .val (.int (own_f0_2 x0 x1 x2 x3)), .val (.int (own_f0_3 x0 x1 x2 x3)), .val (.ref a5), .val (.ref a17), .val (.int (1 : Int32))] []))
                  obtain ⟨Sp, ixp, lp, tp, hbp, htp, hmp, hcase⟩ := own_bld_last (by decide) hbl64
                  have IVp := own_bld_inv (by decide) hbp
                  rcases hcase with ⟨hq, eS, eI, eL⟩ | ⟨hq, eS, eI, eL⟩
                  · subst eS eI eL
                    have Bp := B64
                    have Ip := I64
                    refine own_Goes.step (fun tq kq => XS.aload Y64.here hx rfl (hb hby at_191) rfl rfl kq) ?_
                    show own_Goes _ _ _ _ _ _ _ (T64.setTop (mkF m 193 #[.val (.long x0), .second, .val (.long x1), .second, .val (.long x2), .second, .val (.int x3), .val (.int (own_f0_1 x0 x1 x2 x3)), .val (.int (x3 &&& (3 : Int32))), .val (.int (own_f0_2 x0 x1 x2 x3)), .val (.int (own_f0_3 x0 x1 x2 x3)), .val (.ref a5), .val (.ref a17), .val (.int (1 : Int32))] [(.ref a17)]))
                    obtain ⟨w68, T68, L68, q68, Y68, st68⟩ := own_virt Y64 hx hZ rfl (own_W.exa Bp) hown (own_at hw 89 rfl) (own_at hw 90 rfl) (own_at hw 92 rfl) (own_at hw 91 rfl) (own_at hw 21 rfl) (own_at hw 93 rfl) (by decide) (own_m13a l Z a0 hw [] a17 kA sA dA pA (own_setJ (fun _ => 0) 0 x2) (own_setJ (fun _ => 0) 0 (own_f1_size ((8 : Int64) + (((XT.ushr x3 (4 : Int32)) &&& (7 : Int32)).toInt64)) (own_f0_4 x0 x1 x2 x3))) (own_set (fun _ => 0) 0 (nar .boolean (own_f7 (own_f1_delete ((8 : Int64) + (((XT.ushr x3 (4 : Int32)) &&& (7 : Int32)).toInt64)) (own_f0_4 x0 x1 x2 x3))))) 0 fs49 mx49 am49 (Int32.ofNat (ixp + 1)) iA (own_set Sp tp (Int32.ofNat (0 + 1))) tp n0 T64.heap Bp Ip htp) (by decide) (W := 0) (by decide) (by decide) (by decide) (g := (mkF m 193 #[.val (.long x0), .second, .val (.long x1), .second, .val (.long x2), .second, .val (.int x3), .val (.int (own_f0_1 x0 x1 x2 x3)), .val (.int (x3 &&& (3 : Int32))), .val (.int (own_f0_2 x0 x1 x2 x3)), .val (.int (own_f0_3 x0 x1 x2 x3)), .val (.ref a5), .val (.ref a17), .val (.int (1 : Int32))] [(.ref a17)])) rfl (by rw [hml]; rfl) (argsL := []) (rest := []) (lenOf pd_13 rfl) rfl (by show 2 * 0 + _ ≤ _; exact Nat.le_of_eq rfl) (hb hby at_193)
                    obtain ⟨rfl, N68, B68, I68⟩ := q68
                    rw [own_setset hq] at I68
                    have Nn68 := Fr.app Nn64 N68
                    refine own_Goes.step st68 ?_
                    show own_Goes _ _ _ _ _ _ _ (T68.setTop (mkF m 196 #[.val (.long x0), .second, .val (.long x1), .second, .val (.long x2), .second, .val (.int x3), .val (.int (own_f0_1 x0 x1 x2 x3)), .val (.int (x3 &&& (3 : Int32))), .val (.int (own_f0_2 x0 x1 x2 x3)), .val (.int (own_f0_3 x0 x1 x2 x3)), .val (.ref a5), .val (.ref a17), .val (.int (1 : Int32))] []))
                    exact JS T68 _ _ Y68 rfl Nn68 _ _ _ _ _ _ _ _ _ _ B68 I68 IVp
                  · subst eS eI eL
                    have Bp := B64
                    have Ip := I64
                    refine own_Goes.step (fun tq kq => XS.aload Y64.here hx rfl (hb hby at_191) rfl rfl kq) ?_
                    show own_Goes _ _ _ _ _ _ _ (T64.setTop (mkF m 193 #[.val (.long x0), .second, .val (.long x1), .second, .val (.long x2), .second, .val (.int x3), .val (.int (own_f0_1 x0 x1 x2 x3)), .val (.int (x3 &&& (3 : Int32))), .val (.int (own_f0_2 x0 x1 x2 x3)), .val (.int (own_f0_3 x0 x1 x2 x3)), .val (.ref a5), .val (.ref a17), .val (.int (1 : Int32))] [(.ref a17)]))
                    obtain ⟨w69, T69, L69, q69, Y69, st69⟩ := own_virt Y64 hx hZ rfl (own_W.exa Bp) hown (own_at hw 89 rfl) (own_at hw 90 rfl) (own_at hw 92 rfl) (own_at hw 91 rfl) (own_at hw 21 rfl) (own_at hw 93 rfl) (by decide) (own_m13m l Z a0 hw [] a17 kA sA dA pA (own_setJ (fun _ => 0) 0 x2) (own_setJ (fun _ => 0) 0 (own_f1_size ((8 : Int64) + (((XT.ushr x3 (4 : Int32)) &&& (7 : Int32)).toInt64)) (own_f0_4 x0 x1 x2 x3))) (own_set (fun _ => 0) 0 (nar .boolean (own_f7 (own_f1_delete ((8 : Int64) + (((XT.ushr x3 (4 : Int32)) &&& (7 : Int32)).toInt64)) (own_f0_4 x0 x1 x2 x3))))) 0 fs49 mx49 am49 (Int32.ofNat ixn64) iA S64 n0 T64.heap Bp Ip) (by decide) (W := 0) (by decide) (by decide) (by decide) (g := (mkF m 193 #[.val (.long x0), .second, .val (.long x1), .second, .val (.long x2), .second, .val (.int x3), .val (.int (own_f0_1 x0 x1 x2 x3)), .val (.int (x3 &&& (3 : Int32))), .val (.int (own_f0_2 x0 x1 x2 x3)), .val (.int (own_f0_3 x0 x1 x2 x3)), .val (.ref a5), .val (.ref a17), .val (.int (1 : Int32))] [(.ref a17)])) rfl (by rw [hml]; rfl) (argsL := []) (rest := []) (lenOf pd_13 rfl) rfl (by show 2 * 0 + _ ≤ _; exact Nat.le_of_eq rfl) (hb hby at_193)
                    obtain ⟨rfl, N69, B69, I69⟩ := q69
                    have Nn69 := Fr.app Nn64 N69
                    refine own_Goes.step st69 ?_
                    show own_Goes _ _ _ _ _ _ _ (T69.setTop (mkF m 196 #[.val (.long x0), .second, .val (.long x1), .second, .val (.long x2), .second, .val (.int x3), .val (.int (own_f0_1 x0 x1 x2 x3)), .val (.int (x3 &&& (3 : Int32))), .val (.int (own_f0_2 x0 x1 x2 x3)), .val (.int (own_f0_3 x0 x1 x2 x3)), .val (.ref a5), .val (.ref a17), .val (.int (1 : Int32))] []))
                    exact JS T69 _ _ Y69 rfl Nn69 _ _ _ _ _ _ _ _ _ _ B69 I69 IVp
              · refine own_Goes.step (fun tq kq => XS.ifNo Y34.here hx rfl (hb hby at_133) rfl (XT.i0_eq_f hc48) kq) ?_
                show own_Goes _ _ _ _ _ _ _ (T34.setTop (mkF m 136 #[.val (.long x0), .second, .val (.long x1), .second, .val (.long x2), .second, .val (.int x3), .val (.int (own_f0_1 x0 x1 x2 x3)), .val (.int (x3 &&& (3 : Int32))), .val (.int (own_f0_2 x0 x1 x2 x3)), .val (.int (own_f0_3 x0 x1 x2 x3)), .val (.ref a5), .val (.ref a17), .val (.int (1 : Int32))] []))
                refine own_Goes.step (fun tq kq => XS.iload Y34.here hx rfl (hb hby at_136) rfl kq) ?_
                show own_Goes _ _ _ _ _ _ _ (T34.setTop (mkF m 138 #[.val (.long x0), .second, .val (.long x1), .second, .val (.long x2), .second, .val (.int x3), .val (.int (own_f0_1 x0 x1 x2 x3)), .val (.int (x3 &&& (3 : Int32))), .val (.int (own_f0_2 x0 x1 x2 x3)), .val (.int (own_f0_3 x0 x1 x2 x3)), .val (.ref a5), .val (.ref a17), .val (.int (1 : Int32))] [(.int (1 : Int32))]))
                refine own_Goes.step (fun tq kq => XS.aload Y34.here hx rfl (hb hby at_138) rfl rfl kq) ?_
                show own_Goes _ _ _ _ _ _ _ (T34.setTop (mkF m 140 #[.val (.long x0), .second, .val (.long x1), .second, .val (.long x2), .second, .val (.int x3), .val (.int (own_f0_1 x0 x1 x2 x3)), .val (.int (x3 &&& (3 : Int32))), .val (.int (own_f0_2 x0 x1 x2 x3)), .val (.int (own_f0_3 x0 x1 x2 x3)), .val (.ref a5), .val (.ref a17), .val (.int (1 : Int32))] [(.ref a17), (.int (1 : Int32))]))
                refine own_Goes.step (fun tq kq => XT.lload Y34.here hx rfl (hb hby at_140) rfl kq) ?_
                show own_Goes _ _ _ _ _ _ _ (T34.setTop (mkF m 142 #[.val (.long x0), .second, .val (.long x1), .second, .val (.long x2), .second, .val (.int x3), .val (.int (own_f0_1 x0 x1 x2 x3)), .val (.int (x3 &&& (3 : Int32))), .val (.int (own_f0_2 x0 x1 x2 x3)), .val (.int (own_f0_3 x0 x1 x2 x3)), .val (.ref a5), .val (.ref a17), .val (.int (1 : Int32))] [(.long x2), (.ref a17), (.int (1 : Int32))]))
                obtain ⟨w70, T70, L70, q70, Y70, st70⟩ := own_virt Y34 hx hZ rfl (own_W.exa B34) hown (own_at hw 64 rfl) (own_at hw 65 rfl) (own_at hw 67 rfl) (own_at hw 66 rfl) (own_at hw 21 rfl) (own_at hw 68 rfl) (by decide) (own_m8n l Z a0 hw [] a17 x2 kA sA dA pA (fun _ => 0) (fun _ => 0) (fun _ => 0) 0 0 0 0 (-1 : Int32) 0 n0 T34.heap B34 (by decide)) (by decide) (W := 1) (by decide) (by decide) (by decide) (g := (mkF m 142 #[.val (.long x0), .second, .val (.long x1), .second, .val (.long x2), .second, .val (.int x3), .val (.int (own_f0_1 x0 x1 x2 x3)), .val (.int (x3 &&& (3 : Int32))), .val (.int (own_f0_2 x0 x1 x2 x3)), .val (.int (own_f0_3 x0 x1 x2 x3)), .val (.ref a5), .val (.ref a17), .val (.int (1 : Int32))] [(.long x2), (.ref a17), (.int (1 : Int32))])) rfl (by rw [hml]; rfl) (argsL := [(.long x2)]) (rest := [(.int (1 : Int32))]) (lenOf pd_8 rfl) rfl (by show 2 * 0 + _ ≤ _; exact Nat.le_of_eq rfl) (hb hby at_142)
                obtain ⟨rfl, N70, K70, iA, S70, ixn70, lb70, hbl70, hiA70, B70, I70⟩ := q70
                have Nn70 := Fr.app Nn34 N70
                have IV70 := own_bld_inv (by decide) hbl70
                have en_iA : a5 ≠ iA := Nat.ne_of_lt (Nat.lt_of_lt_of_le f35.lt hiA70)
                have f71 := f35.keep K70
                have f72 := f36.keep K70 (own_nin en_w)
                have f73 := f37.keep K70 (own_nin en_w)
                refine own_Goes.step st70 ?_
                show own_Goes _ _ _ _ _ _ _ (T70.setTop (mkF m 145 #[.val (.long x0), .second, .val (.long x1), .second, .val (.long x2), .second, .val (.int x3), .val (.int (own_f0_1 x0 x1 x2 x3)), .val (.int (x3 &&& (3 : Int32))), .val (.int (own_f0_2 x0 x1 x2 x3)), .val (.int (own_f0_3 x0 x1 x2 x3)), .val (.ref a5), .val (.ref a17), .val (.int (1 : Int32))] [(.int (own_bi (own_mem (fun _ => 0) 0 x2))), (.int (1 : Int32))]))
                refine own_Goes.step (fun tq kq => XT.lload Y70.here hx rfl (hb hby at_145) rfl kq) ?_
                show own_Goes _ _ _ _ _ _ _ (T70.setTop (mkF m 147 #[.val (.long x0), .second, .val (.long x1), .second, .val (.long x2), .second, .val (.int x3), .val (.int (own_f0_1 x0 x1 x2 x3)), .val (.int (x3 &&& (3 : Int32))), .val (.int (own_f0_2 x0 x1 x2 x3)), .val (.int (own_f0_3 x0 x1 x2 x3)), .val (.ref a5), .val (.ref a17), .val (.int (1 : Int32))] [(.long x2), (.int (own_bi (own_mem (fun _ => 0) 0 x2))), (.int (1 : Int32))]))
                refine own_Goes.step (fun tq kq => XT.lloadN Y70.here hx rfl (hb hby at_147) rfl kq) ?_
                show own_Goes _ _ _ _ _ _ _ (T70.setTop (mkF m 148 #[.val (.long x0), .second, .val (.long x1), .second, .val (.long x2), .second, .val (.int x3), .val (.int (own_f0_1 x0 x1 x2 x3)), .val (.int (x3 &&& (3 : Int32))), .val (.int (own_f0_2 x0 x1 x2 x3)), .val (.int (own_f0_3 x0 x1 x2 x3)), .val (.ref a5), .val (.ref a17), .val (.int (1 : Int32))] [(.long x0), (.long x2), (.int (own_bi (own_mem (fun _ => 0) 0 x2))), (.int (1 : Int32))]))
                refine own_Goes.step (fun tq kq => XT.lloadN Y70.here hx rfl (hb hby at_148) rfl kq) ?_
                show own_Goes _ _ _ _ _ _ _ (T70.setTop (mkF m 149 #[.val (.long x0), .second, .val (.long x1), .second, .val (.long x2), .second, .val (.int x3), .val (.int (own_f0_1 x0 x1 x2 x3)), .val (.int (x3 &&& (3 : Int32))), .val (.int (own_f0_2 x0 x1 x2 x3)), .val (.int (own_f0_3 x0 x1 x2 x3)), .val (.ref a5), .val (.ref a17), .val (.int (1 : Int32))] [(.long x1), (.long x0), (.long x2), (.int (own_bi (own_mem (fun _ => 0) 0 x2))), (.int (1 : Int32))]))
                refine own_Goes.step (fun tq kq => XS.iload Y70.here hx rfl (hb hby at_149) rfl kq) ?_
                show own_Goes _ _ _ _ _ _ _ (T70.setTop (mkF m 151 #[.val (.long x0), .second, .val (.long x1), .second, .val (.long x2), .second, .val (.int x3), .val (.int (own_f0_1 x0 x1 x2 x3)), .val (.int (x3 &&& (3 : Int32))), .val (.int (own_f0_2 x0 x1 x2 x3)), .val (.int (own_f0_3 x0 x1 x2 x3)), .val (.ref a5), .val (.ref a17), .val (.int (1 : Int32))] [(.int (own_f0_1 x0 x1 x2 x3)), (.long x1), (.long x0), (.long x2), (.int (own_bi (own_mem (fun _ => 0) 0 x2))), (.int (1 : Int32))]))
                obtain ⟨w74, T74, L74, q74, Y74, st74⟩ := own_stat Y70 hx hZ rfl hown (own_at hw 99 rfl) (own_at hw 100 rfl) (own_at hw 101 rfl) (own_at hw 102 rfl) (by decide) (own_m15 l Z a0 hw [] x2 x0 x1 (own_f0_1 x0 x1 x2 x3) T70.heap ) (by decide) (W := 2) (by decide) (by decide) (by decide) (g := (mkF m 151 #[.val (.long x0), .second, .val (.long x1), .second, .val (.long x2), .second, .val (.int x3), .val (.int (own_f0_1 x0 x1 x2 x3)), .val (.int (x3 &&& (3 : Int32))), .val (.int (own_f0_2 x0 x1 x2 x3)), .val (.int (own_f0_3 x0 x1 x2 x3)), .val (.ref a5), .val (.ref a17), .val (.int (1 : Int32))] [(.int (own_f0_1 x0 x1 x2 x3)), (.long x1), (.long x0), (.long x2), (.int (own_bi (own_mem (fun _ => 0) 0 x2))), (.int (1 : Int32))])) rfl (by rw [hml]; rfl) (argsL := [(.long x2), (.long x0), (.long x1), (.int (own_f0_1 x0 x1 x2 x3))]) (rest := [(.int (own_bi (own_mem (fun _ => 0) 0 x2))), (.int (1 : Int32))]) (lenOf pd_15 rfl) rfl (by show 2 * 0 + _ ≤ _; exact Nat.le_of_eq rfl) (hb hby at_151)
                obtain ⟨e74, X74⟩ := own_clean q74 Y74 rfl rfl
                obtain ⟨rfl, -, -⟩ := q74
                refine own_Goes.step st74 ?_
                show own_Goes _ _ _ _ _ _ _ (T74.setTop (mkF m 154 #[.val (.long x0), .second, .val (.long x1), .second, .val (.long x2), .second, .val (.int x3), .val (.int (own_f0_1 x0 x1 x2 x3)), .val (.int (x3 &&& (3 : Int32))), .val (.int (own_f0_2 x0 x1 x2 x3)), .val (.int (own_f0_3 x0 x1 x2 x3)), .val (.ref a5), .val (.ref a17), .val (.int (1 : Int32))] [(.int (own_f15 x2 x0 x1 (own_f0_1 x0 x1 x2 x3))), (.int (own_bi (own_mem (fun _ => 0) 0 x2))), (.int (1 : Int32))]))
                refine own_Goes.step (fun tq kq => XS.icmpNo X74.here hx rfl (hb hby at_154) rfl (XT.ii_ne_f (own_held0  hc38)) kq) ?_
                show own_Goes _ _ _ _ _ _ _ (T74.setTop (mkF m 157 #[.val (.long x0), .second, .val (.long x1), .second, .val (.long x2), .second, .val (.int x3), .val (.int (own_f0_1 x0 x1 x2 x3)), .val (.int (x3 &&& (3 : Int32))), .val (.int (own_f0_2 x0 x1 x2 x3)), .val (.int (own_f0_3 x0 x1 x2 x3)), .val (.ref a5), .val (.ref a17), .val (.int (1 : Int32))] [(.int (1 : Int32))]))
                refine own_Goes.step (fun tq kq => XT.iconstV X74.here hx rfl (1 : Int32) (hb hby at_157) (by decide) kq) ?_
                show own_Goes _ _ _ _ _ _ _ (T74.setTop (mkF m 158 #[.val (.long x0), .second, .val (.long x1), .second, .val (.long x2), .second, .val (.int x3), .val (.int (own_f0_1 x0 x1 x2 x3)), .val (.int (x3 &&& (3 : Int32))), .val (.int (own_f0_2 x0 x1 x2 x3)), .val (.int (own_f0_3 x0 x1 x2 x3)), .val (.ref a5), .val (.ref a17), .val (.int (1 : Int32))] [(.int (1 : Int32)), (.int (1 : Int32))]))
                refine own_Goes.step (fun tq kq => XS.goto X74.here hx rfl (pc0 := 158) (pc' := 162) rfl (hb hby at_158) (by decide) (by decide) kq) ?_
                show own_Goes _ _ _ _ _ _ _ (T74.setTop (mkF m 162 #[.val (.long x0), .second, .val (.long x1), .second, .val (.long x2), .second, .val (.int x3), .val (.int (own_f0_1 x0 x1 x2 x3)), .val (.int (x3 &&& (3 : Int32))), .val (.int (own_f0_2 x0 x1 x2 x3)), .val (.int (own_f0_3 x0 x1 x2 x3)), .val (.ref a5), .val (.ref a17), .val (.int (1 : Int32))] [(.int (1 : Int32)), (.int (1 : Int32))]))
                refine own_Goes.step (fun tq kq => XS.iand X74.here hx rfl (hb hby at_162) rfl kq) ?_
                show own_Goes _ _ _ _ _ _ _ (T74.setTop (mkF m 163 #[.val (.long x0), .second, .val (.long x1), .second, .val (.long x2), .second, .val (.int x3), .val (.int (own_f0_1 x0 x1 x2 x3)), .val (.int (x3 &&& (3 : Int32))), .val (.int (own_f0_2 x0 x1 x2 x3)), .val (.int (own_f0_3 x0 x1 x2 x3)), .val (.ref a5), .val (.ref a17), .val (.int (1 : Int32))] [(.int (1 : Int32))]))
                refine own_Goes.step (fun tq kq => XS.istore X74.here hx rfl (hb hby at_163) rfl (l' := #[.val (.long x0), .second, .val (.long x1), .second, .val (.long x2), .second, .val (.int x3), .val (.int (own_f0_1 x0 x1 x2 x3)), .val (.int (x3 &&& (3 : Int32))), .val (.int (own_f0_2 x0 x1 x2 x3)), .val (.int (own_f0_3 x0 x1 x2 x3)), .val (.ref a5), .val (.ref a17), .val (.int (1 : Int32))]) rfl kq) ?_
                show own_Goes _ _ _ _ _ _ _ (T74.setTop (mkF m 165 #[.val (.long x0), .second, .val (.long x1), .second, .val (.long x2), .second, .val (.int x3), .val (.int (own_f0_1 x0 x1 x2 x3)), .val (.int (x3 &&& (3 : Int32))), .val (.int (own_f0_2 x0 x1 x2 x3)), .val (.int (own_f0_3 x0 x1 x2 x3)), .val (.ref a5), .val (.ref a17), .val (.int (1 : Int32))] []))
                refine own_Goes.step (fun tq kq => XS.aload X74.here hx rfl (hb hby at_165) rfl rfl kq) ?_
                show own_Goes _ _ _ _ _ _ _ (T74.setTop (mkF m 167 #[.val (.long x0), .second, .val (.long x1), .second, .val (.long x2), .second, .val (.int x3), .val (.int (own_f0_1 x0 x1 x2 x3)), .val (.int (x3 &&& (3 : Int32))), .val (.int (own_f0_2 x0 x1 x2 x3)), .val (.int (own_f0_3 x0 x1 x2 x3)), .val (.ref a5), .val (.ref a17), .val (.int (1 : Int32))] [(.ref a17)]))
                refine own_Goes.step (fun tq kq => XT.lload X74.here hx rfl (hb hby at_167) rfl kq) ?_
                show own_Goes _ _ _ _ _ _ _ (T74.setTop (mkF m 169 #[.val (.long x0), .second, .val (.long x1), .second, .val (.long x2), .second, .val (.int x3), .val (.int (own_f0_1 x0 x1 x2 x3)), .val (.int (x3 &&& (3 : Int32))), .val (.int (own_f0_2 x0 x1 x2 x3)), .val (.int (own_f0_3 x0 x1 x2 x3)), .val (.ref a5), .val (.ref a17), .val (.int (1 : Int32))] [(.long x2), (.ref a17)]))
                refine own_Goes.step (fun tq kq => XS.aload X74.here hx rfl (hb hby at_169) rfl rfl kq) ?_
                show own_Goes _ _ _ _ _ _ _ (T74.setTop (mkF m 171 #[.val (.long x0), .second, .val (.long x1), .second, .val (.long x2), .second, .val (.int x3), .val (.int (own_f0_1 x0 x1 x2 x3)), .val (.int (x3 &&& (3 : Int32))), .val (.int (own_f0_2 x0 x1 x2 x3)), .val (.int (own_f0_3 x0 x1 x2 x3)), .val (.ref a5), .val (.ref a17), .val (.int (1 : Int32))] [(.ref a5), (.long x2), (.ref a17)]))
                have hbl75 : own_bld (own_setJ (fun _ => 0) 0 x2) (-1 : Int32) 0 = some (S70, ixn70, lb70) := (own_bld_congr 0 (by decide) (fun j hj => (if_neg (Nat.ne_of_lt hj)).symm)).symm.trans hbl70
                have IV75 := own_bld_inv (by decide) hbl75
                obtain ⟨t75, ht75, hm75⟩ := IV75.find (by decide) x2
                obtain ⟨w75, T75, L75, q75, Y75, st75⟩ := own_virt X74 hx hZ e74 (own_W.exa B70) hown (own_at hw 39 rfl) (own_at hw 40 rfl) (own_at hw 42 rfl) (own_at hw 41 rfl) (own_at hw 21 rfl) (own_at hw 43 rfl) (by decide) (own_m5s l Z a0 hw [] a17 x2 a5 kA sA dA pA (fun _ => 0) (fun _ => 0) (fun _ => 0) 0 0 0 0 lb70 (Int32.ofNat ixn70) (own_f1_size ((8 : Int64) + (((XT.ushr x3 (4 : Int32)) &&& (7 : Int32)).toInt64)) (own_f0_4 x0 x1 x2 x3)) (own_f1_delete ((8 : Int64) + (((XT.ushr x3 (4 : Int32)) &&& (7 : Int32)).toInt64)) (own_f0_4 x0 x1 x2 x3)) iA S70 t75 n0 T70.heap B70 I70 f71 f72 f73 (own_flag x0 x1 x2 x3) en_w en_kA en_sA en_dA en_pA (by decide) en_iA (IV75.1.ok (by decide)) hm75 ht75 (own_ix8 (by have := IV75.2.1; omega))) (by decide) (W := 0) (by decide) (by decide) (by decide) (g := (mkF m 171 #[.val (.long x0), .second, .val (.long x1), .second, .val (.long x2), .second, .val (.int x3), .val (.int (own_f0_1 x0 x1 x2 x3)), .val (.int (x3 &&& (3 : Int32))), .val (.int (own_f0_2 x0 x1 x2 x3)), .val (.int (own_f0_3 x0 x1 x2 x3)), .val (.ref a5), .val (.ref a17), .val (.int (1 : Int32))] [(.ref a5), (.long x2), (.ref a17)])) rfl (by rw [hml]; rfl) (argsL := [(.long x2), (.ref a5)]) (rest := []) (lenOf pd_5 rfl) rfl (by show 2 * 0 + _ ≤ _; exact Nat.le_of_eq rfl) (hb hby at_171)
                obtain ⟨rfl, N75, K75, fs75, mx75, am75, -, hif75⟩ := q75
                have Nn75 := Fr.app Nn70 N75
                refine own_Goes.step st75 ?_
                show own_Goes _ _ _ _ _ _ _ (T75.setTop (mkF m 174 #[.val (.long x0), .second, .val (.long x1), .second, .val (.long x2), .second, .val (.int x3), .val (.int (own_f0_1 x0 x1 x2 x3)), .val (.int (x3 &&& (3 : Int32))), .val (.int (own_f0_2 x0 x1 x2 x3)), .val (.int (own_f0_3 x0 x1 x2 x3)), .val (.ref a5), .val (.ref a17), .val (.int (1 : Int32))] []))
                by_cases hq : S70 t75 = (0 : Int32)
                · rw [if_pos hq] at hif75
                  obtain ⟨Bf, If⟩ := hif75
                  have IVf := IV75.ins (by decide) hm75
                  rw [if_pos hq, if_pos hq] at IVf
                  refine own_Goes.step (fun tq kq => XS.iload Y75.here hx rfl (hb hby at_174) rfl kq) ?_
                  show own_Goes _ _ _ _ _ _ _ (T75.setTop (mkF m 176 #[.val (.long x0), .second, .val (.long x1), .second, .val (.long x2), .second, .val (.int x3), .val (.int (own_f0_1 x0 x1 x2 x3)), .val (.int (x3 &&& (3 : Int32))), .val (.int (own_f0_2 x0 x1 x2 x3)), .val (.int (own_f0_3 x0 x1 x2 x3)), .val (.ref a5), .val (.ref a17), .val (.int (1 : Int32))] [(.int (own_f0_3 x0 x1 x2 x3))]))
                  by_cases hc76 : (own_f0_3 x0 x1 x2 x3) = (0 : Int32)
                  · refine own_Goes.step (fun tq kq => XS.ifYes Y75.here hx rfl (pc0 := 176) (pc' := 191) rfl (hb hby at_176) rfl (XT.i0_eq_t hc76) (by decide) (by decide) kq) ?_
                    show own_Goes _ _ _ _ _ _ _ (T75.setTop (mkF m 191 #[.val (.long x0), .second, .val (.long x1), .second, .val (.long x2), .second, .val (.int x3), .val (.int (own_f0_1 x0 x1 x2 x3)), .val (.int (x3 &&& (3 : Int32))), .val (.int (own_f0_2 x0 x1 x2 x3)), .val (.int (own_f0_3 x0 x1 x2 x3)), .val (.ref a5), .val (.ref a17), .val (.int (1 : Int32))] []))
                    refine own_Goes.step (fun tq kq => XS.aload Y75.here hx rfl (hb hby at_191) rfl rfl kq) ?_
                    show own_Goes _ _ _ _ _ _ _ (T75.setTop (mkF m 193 #[.val (.long x0), .second, .val (.long x1), .second, .val (.long x2), .second, .val (.int x3), .val (.int (own_f0_1 x0 x1 x2 x3)), .val (.int (x3 &&& (3 : Int32))), .val (.int (own_f0_2 x0 x1 x2 x3)), .val (.int (own_f0_3 x0 x1 x2 x3)), .val (.ref a5), .val (.ref a17), .val (.int (1 : Int32))] [(.ref a17)]))
                    obtain ⟨w77, T77, L77, q77, Y77, st77⟩ := own_virt Y75 hx hZ rfl (own_W.exa Bf) hown (own_at hw 89 rfl) (own_at hw 90 rfl) (own_at hw 92 rfl) (own_at hw 91 rfl) (own_at hw 21 rfl) (own_at hw 93 rfl) (by decide) (own_m13a l Z a0 hw [] a17 kA sA dA pA (own_setJ (fun _ => 0) 0 x2) (own_setJ (fun _ => 0) 0 (own_f1_size ((8 : Int64) + (((XT.ushr x3 (4 : Int32)) &&& (7 : Int32)).toInt64)) (own_f0_4 x0 x1 x2 x3))) (own_set (fun _ => 0) 0 (nar .boolean (own_f7 (own_f1_delete ((8 : Int64) + (((XT.ushr x3 (4 : Int32)) &&& (7 : Int32)).toInt64)) (own_f0_4 x0 x1 x2 x3))))) 0 fs75 mx75 am75 (Int32.ofNat ixn70 + (1 : Int32)) iA (own_set S70 t75 (Int32.ofNat (0 + 1))) t75 n0 T75.heap Bf If ht75) (by decide) (W := 0) (by decide) (by decide) (by decide) (g := (mkF m 193 #[.val (.long x0), .second, .val (.long x1), .second, .val (.long x2), .second, .val (.int x3), .val (.int (own_f0_1 x0 x1 x2 x3)), .val (.int (x3 &&& (3 : Int32))), .val (.int (own_f0_2 x0 x1 x2 x3)), .val (.int (own_f0_3 x0 x1 x2 x3)), .val (.ref a5), .val (.ref a17), .val (.int (1 : Int32))] [(.ref a17)])) rfl (by rw [hml]; rfl) (argsL := []) (rest := []) (lenOf pd_13 rfl) rfl (by show 2 * 0 + _ ≤ _; exact Nat.le_of_eq rfl) (hb hby at_193)
                    obtain ⟨rfl, N77, B77, I77⟩ := q77
                    rw [own_setset hq] at I77
                    have Nn77 := Fr.app Nn75 N77
                    refine own_Goes.step st77 ?_
                    show own_Goes _ _ _ _ _ _ _ (T77.setTop (mkF m 196 #[.val (.long x0), .second, .val (.long x1), .second, .val (.long x2), .second, .val (.int x3), .val (.int (own_f0_1 x0 x1 x2 x3)), .val (.int (x3 &&& (3 : Int32))), .val (.int (own_f0_2 x0 x1 x2 x3)), .val (.int (own_f0_3 x0 x1 x2 x3)), .val (.ref a5), .val (.ref a17), .val (.int (1 : Int32))] []))
                    exact JS T77 _ _ Y77 rfl Nn77 _ _ _ _ _ _ _ _ _ _ B77 I77 IV75
                  · refine own_Goes.step (fun tq kq => XS.ifNo Y75.here hx rfl (hb hby at_176) rfl (XT.i0_eq_f hc76) kq) ?_
                    show own_Goes _ _ _ _ _ _ _ (T75.setTop (mkF m 179 #[.val (.long x0), .second, .val (.long x1), .second, .val (.long x2), .second, .val (.int x3), .val (.int (own_f0_1 x0 x1 x2 x3)), .val (.int (x3 &&& (3 : Int32))), .val (.int (own_f0_2 x0 x1 x2 x3)), .val (.int (own_f0_3 x0 x1 x2 x3)), .val (.ref a5), .val (.ref a17), .val (.int (1 : Int32))] []))
                    refine own_Goes.step (fun tq kq => XS.iload Y75.here hx rfl (hb hby at_179) rfl kq) ?_
                    show own_Goes _ _ _ _ _ _ _ (T75.setTop (mkF m 181 #[.val (.long x0), .second, .val (.long x1), .second, .val (.long x2), .second, .val (.int x3), .val (.int (own_f0_1 x0 x1 x2 x3)), .val (.int (x3 &&& (3 : Int32))), .val (.int (own_f0_2 x0 x1 x2 x3)), .val (.int (own_f0_3 x0 x1 x2 x3)), .val (.ref a5), .val (.ref a17), .val (.int (1 : Int32))] [(.int (1 : Int32))]))
                    refine own_Goes.step (fun tq kq => XS.aload Y75.here hx rfl (hb hby at_181) rfl rfl kq) ?_
                    show own_Goes _ _ _ _ _ _ _ (T75.setTop (mkF m 183 #[.val (.long x0), .second, .val (.long x1), .second, .val (.long x2), .second, .val (.int x3), .val (.int (own_f0_1 x0 x1 x2 x3)), .val (.int (x3 &&& (3 : Int32))), .val (.int (own_f0_2 x0 x1 x2 x3)), .val (.int (own_f0_3 x0 x1 x2 x3)), .val (.ref a5), .val (.ref a17), .val (.int (1 : Int32))] [(.ref a17), (.int (1 : Int32))]))
                    refine own_Goes.step (fun tq kq => XT.lload Y75.here hx rfl (hb hby at_183) rfl kq) ?_
                    show own_Goes _ _ _ _ _ _ _ (T75.setTop (mkF m 185 #[.val (.long x0), .second, .val (.long x1), .second, .val (.long x2), .second, .val (.int x3), .val (.int (own_f0_1 x0 x1 x2 x3)), .val (.int (x3 &&& (3 : Int32))), .val (.int (own_f0_2 x0 x1 x2 x3)), .val (.int (own_f0_3 x0 x1 x2 x3)), .val (.ref a5), .val (.ref a17), .val (.int (1 : Int32))] [(.long x2), (.ref a17), (.int (1 : Int32))]))
                    obtain ⟨t78, ht78, hm78⟩ := IVf.find (by decide) x2
                    have hr78 := IVf.says hm78
                    obtain ⟨w78, T78, L78, q78, Y78, st78⟩ := own_virt Y75 hx hZ rfl (own_W.exa Bf) hown (own_at hw 64 rfl) (own_at hw 65 rfl) (own_at hw 67 rfl) (own_at hw 66 rfl) (own_at hw 21 rfl) (own_at hw 68 rfl) (by decide) (own_m8s l Z a0 hw [] a17 x2 kA sA dA pA (own_setJ (fun _ => 0) 0 x2) (own_setJ (fun _ => 0) 0 (own_f1_size ((8 : Int64) + (((XT.ushr x3 (4 : Int32)) &&& (7 : Int32)).toInt64)) (own_f0_4 x0 x1 x2 x3))) (own_set (fun _ => 0) 0 (nar .boolean (own_f7 (own_f1_delete ((8 : Int64) + (((XT.ushr x3 (4 : Int32)) &&& (7 : Int32)).toInt64)) (own_f0_4 x0 x1 x2 x3))))) 1 fs75 mx75 am75 (Int32.ofNat t75) (Int32.ofNat ixn70 + (1 : Int32)) iA (own_set S70 t75 (Int32.ofNat (0 + 1))) t78 (own_mem (own_setJ (fun _ => 0) 0 x2) 1 x2) n0 T75.heap Bf If (IVf.1.ok (by decide)) hm78 ht78 hr78) (by decide) (W := 1) (by decide) (by decide) (by decide) (g := (mkF m 185 #[.val (.long x0), .second, .val (.long x1), .second, .val (.long x2), .second, .val (.int x3), .val (.int (own_f0_1 x0 x1 x2 x3)), .val (.int (x3 &&& (3 : Int32))), .val (.int (own_f0_2 x0 x1 x2 x3)), .val (.int (own_f0_3 x0 x1 x2 x3)), .val (.ref a5), .val (.ref a17), .val (.int (1 : Int32))] [(.long x2), (.ref a17), (.int (1 : Int32))])) rfl (by rw [hml]; rfl) (argsL := [(.long x2)]) (rest := [(.int (1 : Int32))]) (lenOf pd_8 rfl) rfl (by show 2 * 0 + _ ≤ _; exact Nat.le_of_eq rfl) (hb hby at_185)
                    obtain ⟨e78, X78⟩ := own_clean q78 Y78 rfl rfl
                    obtain ⟨rfl, -, -⟩ := q78
                    rw [show own_bi (own_mem (own_setJ (fun _ => 0) 0 x2) 1 x2) = (1 : Int32) from own_hit rfl] at st78
                    refine own_Goes.step st78 ?_
                    show own_Goes _ _ _ _ _ _ _ (T78.setTop (mkF m 188 #[.val (.long x0), .second, .val (.long x1), .second, .val (.long x2), .second, .val (.int x3), .val (.int (own_f0_1 x0 x1 x2 x3)), .val (.int (x3 &&& (3 : Int32))), .val (.int (own_f0_2 x0 x1 x2 x3)), .val (.int (own_f0_3 x0 x1 x2 x3)), .val (.ref a5), .val (.ref a17), .val (.int (1 : Int32))] [(.int (1 : Int32)), (.int (1 : Int32))]))
                    refine own_Goes.step (fun tq kq => XS.iand X78.here hx rfl (hb hby at_188) rfl kq) ?_
                    show own_Goes _ _ _ _ _ _ _ (T78.setTop (mkF m 189 #[.val (.long x0), .second, .val (.long x1), .second, .val (.long x2), .second, .val (.int x3), .val (.int (own_f0_1 x0 x1 x2 x3)), .val (.int (x3 &&& (3 : Int32))), .val (.int (own_f0_2 x0 x1 x2 x3)), .val (.int (own_f0_3 x0 x1 x2 x3)), .val (.ref a5), .val (.ref a17), .val (.int (1 : Int32))] [(.int (1 : Int32))]))
                    refine own_Goes.step (fun tq kq => XS.istore X78.here hx rfl (hb hby at_189) rfl (l' := #[.val (.long x0), .second, .val (.long x1), .second, .val (.long x2), .second, .val (.int x3), .val (.int (own_f0_1 x0 x1 x2 x3)), .val (.int (x3 &&& (3 : Int32))), .val (.int (own_f0_2 x0 x1 x2 x3)), .val (.int (own_f0_3 x0 x1 x2 x3)), .val (.ref a5), .val (.ref a17), .val (.int (1 : Int32))]) rfl kq) ?_
                    show own_Goes _ _ _ _ _ _ _ (T78.setTop (mkF m 191 #[.val (.long x0), .second, .val (.long x1), .second, .val (.long x2), .second, .val (.int x3), .val (.int (own_f0_1 x0 x1 x2 x3)), .val (.int (x3 &&& (3 : Int32))), .val (.int (own_f0_2 x0 x1 x2 x3)), .val (.int (own_f0_3 x0 x1 x2 x3)), .val (.ref a5), .val (.ref a17), .val (.int (1 : Int32))] []))
                    refine own_Goes.step (fun tq kq => XS.aload X78.here hx rfl (hb hby at_191) rfl rfl kq) ?_
                    show own_Goes _ _ _ _ _ _ _ (T78.setTop (mkF m 193 #[.val (.long x0), .second, .val (.long x1), .second, .val (.long x2), .second, .val (.int x3), .val (.int (own_f0_1 x0 x1 x2 x3)), .val (.int (x3 &&& (3 : Int32))), .val (.int (own_f0_2 x0 x1 x2 x3)), .val (.int (own_f0_3 x0 x1 x2 x3)), .val (.ref a5), .val (.ref a17), .val (.int (1 : Int32))] [(.ref a17)]))
                    obtain ⟨w79, T79, L79, q79, Y79, st79⟩ := own_virt X78 hx hZ e78 (own_W.exa Bf) hown (own_at hw 89 rfl) (own_at hw 90 rfl) (own_at hw 92 rfl) (own_at hw 91 rfl) (own_at hw 21 rfl) (own_at hw 93 rfl) (by decide) (own_m13a l Z a0 hw [] a17 kA sA dA pA (own_setJ (fun _ => 0) 0 x2) (own_setJ (fun _ => 0) 0 (own_f1_size ((8 : Int64) + (((XT.ushr x3 (4 : Int32)) &&& (7 : Int32)).toInt64)) (own_f0_4 x0 x1 x2 x3))) (own_set (fun _ => 0) 0 (nar .boolean (own_f7 (own_f1_delete ((8 : Int64) + (((XT.ushr x3 (4 : Int32)) &&& (7 : Int32)).toInt64)) (own_f0_4 x0 x1 x2 x3))))) 0 fs75 mx75 am75 (Int32.ofNat ixn70 + (1 : Int32)) iA (own_set S70 t75 (Int32.ofNat (0 + 1))) t75 n0 T75.heap Bf If ht75) (by decide) (W := 0) (by decide) (by decide) (by decide) (g := (mkF m 193 #[.val (.long x0), .second, .val (.long x1), .second, .val (.long x2), .second, .val (.int x3), .val (.int (own_f0_1 x0 x1 x2 x3)), .val (.int (x3 &&& (3 : Int32))), .val (.int (own_f0_2 x0 x1 x2 x3)), .val (.int (own_f0_3 x0 x1 x2 x3)), .val (.ref a5), .val (.ref a17), .val (.int (1 : Int32))] [(.ref a17)])) rfl (by rw [hml]; rfl) (argsL := []) (rest := []) (lenOf pd_13 rfl) rfl (by show 2 * 0 + _ ≤ _; exact Nat.le_of_eq rfl) (hb hby at_193)
                    obtain ⟨rfl, N79, B79, I79⟩ := q79
                    rw [own_setset hq] at I79
                    have Nn79 := Fr.app Nn75 N79
                    refine own_Goes.step st79 ?_
                    show own_Goes _ _ _ _ _ _ _ (T79.setTop (mkF m 196 #[.val (.long x0), .second, .val (.long x1), .second, .val (.long x2), .second, .val (.int x3), .val (.int (own_f0_1 x0 x1 x2 x3)), .val (.int (x3 &&& (3 : Int32))), .val (.int (own_f0_2 x0 x1 x2 x3)), .val (.int (own_f0_3 x0 x1 x2 x3)), .val (.ref a5), .val (.ref a17), .val (.int (1 : Int32))] []))
                    exact JS T79 _ _ Y79 rfl Nn79 _ _ _ _ _ _ _ _ _ _ B79 I79 IV75
                · rw [if_neg hq] at hif75
                  obtain ⟨Bf, If⟩ := hif75
                  have IVf := IV75.ins (by decide) hm75
                  rw [if_neg hq, if_neg hq] at IVf
                  refine own_Goes.step (fun tq kq => XS.iload Y75.here hx rfl (hb hby at_174) rfl kq) ?_
                  show own_Goes _ _ _ _ _ _ _ (T75.setTop (mkF m 176 #[.val (.long x0), .second, .val (.long x1), .second, .val (.long x2), .second, .val (.int x3), .val (.int (own_f0_1 x0 x1 x2 x3)), .val (.int (x3 &&& (3 : Int32))), .val (.int (own_f0_2 x0 x1 x2 x3)), .val (.int (own_f0_3 x0 x1 x2 x3)), .val (.ref a5), .val (.ref a17), .val (.int (1 : Int32))] [(.int (own_f0_3 x0 x1 x2 x3))]))
                  by_cases hc80 : (own_f0_3 x0 x1 x2 x3) = (0 : Int32)
                  · refine own_Goes.step (fun tq kq => XS.ifYes Y75.here hx rfl (pc0 := 176) (pc' := 191) rfl (hb hby at_176) rfl (XT.i0_eq_t hc80) (by decide) (by decide) kq) ?_
                    show own_Goes _ _ _ _ _ _ _ (T75.setTop (mkF m 191 #[.val (.long x0), .second, .val (.long x1), .second, .val (.long x2), .second, .val (.int x3), .val (.int (own_f0_1 x0 x1 x2 x3)), .val (.int (x3 &&& (3 : Int32))), .val (.int (own_f0_2 x0 x1 x2 x3)), .val (.int (own_f0_3 x0 x1 x2 x3)), .val (.ref a5), .val (.ref a17), .val (.int (1 : Int32))] []))
                    refine own_Goes.step (fun tq kq => XS.aload Y75.here hx rfl (hb hby at_191) rfl rfl kq) ?_
                    show own_Goes _ _ _ _ _ _ _ (T75.setTop (mkF m 193 #[.val (.long x0), .second, .val (.long x1), .second, .val (.long x2), .second, .val (.int x3), .val (.int (own_f0_1 x0 x1 x2 x3)), .val (.int (x3 &&& (3 : Int32))), .val (.int (own_f0_2 x0 x1 x2 x3)), .val (.int (own_f0_3 x0 x1 x2 x3)), .val (.ref a5), .val (.ref a17), .val (.int (1 : Int32))] [(.ref a17)]))
                    obtain ⟨w81, T81, L81, q81, Y81, st81⟩ := own_virt Y75 hx hZ rfl (own_W.exa Bf) hown (own_at hw 89 rfl) (own_at hw 90 rfl) (own_at hw 92 rfl) (own_at hw 91 rfl) (own_at hw 21 rfl) (own_at hw 93 rfl) (by decide) (own_m13m l Z a0 hw [] a17 kA sA dA pA (own_setJ (fun _ => 0) 0 x2) (own_setJ (fun _ => 0) 0 (own_f1_size ((8 : Int64) + (((XT.ushr x3 (4 : Int32)) &&& (7 : Int32)).toInt64)) (own_f0_4 x0 x1 x2 x3))) (own_set (fun _ => 0) 0 (nar .boolean (own_f7 (own_f1_delete ((8 : Int64) + (((XT.ushr x3 (4 : Int32)) &&& (7 : Int32)).toInt64)) (own_f0_4 x0 x1 x2 x3))))) 0 fs75 mx75 am75 (Int32.ofNat ixn70) iA S70 n0 T75.heap Bf If) (by decide) (W := 0) (by decide) (by decide) (by decide) (g := (mkF m 193 #[.val (.long x0), .second, .val (.long x1), .second, .val (.long x2), .second, .val (.int x3), .val (.int (own_f0_1 x0 x1 x2 x3)), .val (.int (x3 &&& (3 : Int32))), .val (.int (own_f0_2 x0 x1 x2 x3)), .val (.int (own_f0_3 x0 x1 x2 x3)), .val (.ref a5), .val (.ref a17), .val (.int (1 : Int32))] [(.ref a17)])) rfl (by rw [hml]; rfl) (argsL := []) (rest := []) (lenOf pd_13 rfl) rfl (by show 2 * 0 + _ ≤ _; exact Nat.le_of_eq rfl) (hb hby at_193)
                    obtain ⟨rfl, N81, B81, I81⟩ := q81
                    have Nn81 := Fr.app Nn75 N81
                    refine own_Goes.step st81 ?_
                    show own_Goes _ _ _ _ _ _ _ (T81.setTop (mkF m 196 #[.val (.long x0), .second, .val (.long x1), .second, .val (.long x2), .second, .val (.int x3), .val (.int (own_f0_1 x0 x1 x2 x3)), .val (.int (x3 &&& (3 : Int32))), .val (.int (own_f0_2 x0 x1 x2 x3)), .val (.int (own_f0_3 x0 x1 x2 x3)), .val (.ref a5), .val (.ref a17), .val (.int (1 : Int32))] []))
                    exact JS T81 _ _ Y81 rfl Nn81 _ _ _ _ _ _ _ _ _ _ B81 I81 IV75
                  · refine own_Goes.step (fun tq kq => XS.ifNo Y75.here hx rfl (hb hby at_176) rfl (XT.i0_eq_f hc80) kq) ?_
                    show own_Goes _ _ _ _ _ _ _ (T75.setTop (mkF m 179 #[.val (.long x0), .second, .val (.long x1), .second, .val (.long x2), .second, .val (.int x3), .val (.int (own_f0_1 x0 x1 x2 x3)), .val (.int (x3 &&& (3 : Int32))), .val (.int (own_f0_2 x0 x1 x2 x3)), .val (.int (own_f0_3 x0 x1 x2 x3)), .val (.ref a5), .val (.ref a17), .val (.int (1 : Int32))] []))
                    refine own_Goes.step (fun tq kq => XS.iload Y75.here hx rfl (hb hby at_179) rfl kq) ?_
                    show own_Goes _ _ _ _ _ _ _ (T75.setTop (mkF m 181 #[.val (.long x0), .second, .val (.long x1), .second, .val (.long x2), .second, .val (.int x3), .val (.int (own_f0_1 x0 x1 x2 x3)), .val (.int (x3 &&& (3 : Int32))), .val (.int (own_f0_2 x0 x1 x2 x3)), .val (.int (own_f0_3 x0 x1 x2 x3)), .val (.ref a5), .val (.ref a17), .val (.int (1 : Int32))] [(.int (1 : Int32))]))
                    refine own_Goes.step (fun tq kq => XS.aload Y75.here hx rfl (hb hby at_181) rfl rfl kq) ?_
                    show own_Goes _ _ _ _ _ _ _ (T75.setTop (mkF m 183 #[.val (.long x0), .second, .val (.long x1), .second, .val (.long x2), .second, .val (.int x3), .val (.int (own_f0_1 x0 x1 x2 x3)), .val (.int (x3 &&& (3 : Int32))), .val (.int (own_f0_2 x0 x1 x2 x3)), .val (.int (own_f0_3 x0 x1 x2 x3)), .val (.ref a5), .val (.ref a17), .val (.int (1 : Int32))] [(.ref a17), (.int (1 : Int32))]))
                    refine own_Goes.step (fun tq kq => XT.lload Y75.here hx rfl (hb hby at_183) rfl kq) ?_
                    show own_Goes _ _ _ _ _ _ _ (T75.setTop (mkF m 185 #[.val (.long x0), .second, .val (.long x1), .second, .val (.long x2), .second, .val (.int x3), .val (.int (own_f0_1 x0 x1 x2 x3)), .val (.int (x3 &&& (3 : Int32))), .val (.int (own_f0_2 x0 x1 x2 x3)), .val (.int (own_f0_3 x0 x1 x2 x3)), .val (.ref a5), .val (.ref a17), .val (.int (1 : Int32))] [(.long x2), (.ref a17), (.int (1 : Int32))]))
                    obtain ⟨t82, ht82, hm82⟩ := IVf.find (by decide) x2
                    have hr82 := IVf.says hm82
                    obtain ⟨w82, T82, L82, q82, Y82, st82⟩ := own_virt Y75 hx hZ rfl (own_W.exa Bf) hown (own_at hw 64 rfl) (own_at hw 65 rfl) (own_at hw 67 rfl) (own_at hw 66 rfl) (own_at hw 21 rfl) (own_at hw 68 rfl) (by decide) (own_m8s l Z a0 hw [] a17 x2 kA sA dA pA (own_setJ (fun _ => 0) 0 x2) (own_setJ (fun _ => 0) 0 (own_f1_size ((8 : Int64) + (((XT.ushr x3 (4 : Int32)) &&& (7 : Int32)).toInt64)) (own_f0_4 x0 x1 x2 x3))) (own_set (fun _ => 0) 0 (nar .boolean (own_f7 (own_f1_delete ((8 : Int64) + (((XT.ushr x3 (4 : Int32)) &&& (7 : Int32)).toInt64)) (own_f0_4 x0 x1 x2 x3))))) 1 fs75 mx75 am75 (-1 : Int32) (Int32.ofNat ixn70) iA S70 t82 (own_mem (own_setJ (fun _ => 0) 0 x2) 1 x2) n0 T75.heap Bf If (IVf.1.ok (by decide)) hm82 ht82 hr82) (by decide) (W := 1) (by decide) (by decide) (by decide) (g := (mkF m 185 #[.val (.long x0), .second, .val (.long x1), .second, .val (.long x2), .second, .val (.int x3), .val (.int (own_f0_1 x0 x1 x2 x3)), .val (.int (x3 &&& (3 : Int32))), .val (.int (own_f0_2 x0 x1 x2 x3)), .val (.int (own_f0_3 x0 x1 x2 x3)), .val (.ref a5), .val (.ref a17), .val (.int (1 : Int32))] [(.long x2), (.ref a17), (.int (1 : Int32))])) rfl (by rw [hml]; rfl) (argsL := [(.long x2)]) (rest := [(.int (1 : Int32))]) (lenOf pd_8 rfl) rfl (by show 2 * 0 + _ ≤ _; exact Nat.le_of_eq rfl) (hb hby at_185)
                    obtain ⟨e82, X82⟩ := own_clean q82 Y82 rfl rfl
                    obtain ⟨rfl, -, -⟩ := q82
                    rw [show own_bi (own_mem (own_setJ (fun _ => 0) 0 x2) 1 x2) = (1 : Int32) from own_hit rfl] at st82
                    refine own_Goes.step st82 ?_
                    show own_Goes _ _ _ _ _ _ _ (T82.setTop (mkF m 188 #[.val (.long x0), .second, .val (.long x1), .second, .val (.long x2), .second, .val (.int x3), .val (.int (own_f0_1 x0 x1 x2 x3)), .val (.int (x3 &&& (3 : Int32))), .val (.int (own_f0_2 x0 x1 x2 x3)), .val (.int (own_f0_3 x0 x1 x2 x3)), .val (.ref a5), .val (.ref a17), .val (.int (1 : Int32))] [(.int (1 : Int32)), (.int (1 : Int32))]))
                    refine own_Goes.step (fun tq kq => XS.iand X82.here hx rfl (hb hby at_188) rfl kq) ?_
                    show own_Goes _ _ _ _ _ _ _ (T82.setTop (mkF m 189 #[.val (.long x0), .second, .val (.long x1), .second, .val (.long x2), .second, .val (.int x3), .val (.int (own_f0_1 x0 x1 x2 x3)), .val (.int (x3 &&& (3 : Int32))), .val (.int (own_f0_2 x0 x1 x2 x3)), .val (.int (own_f0_3 x0 x1 x2 x3)), .val (.ref a5), .val (.ref a17), .val (.int (1 : Int32))] [(.int (1 : Int32))]))
                    refine own_Goes.step (fun tq kq => XS.istore X82.here hx rfl (hb hby at_189) rfl (l' := #[.val (.long x0), .second, .val (.long x1), .second, .val (.long x2), .second, .val (.int x3), .val (.int (own_f0_1 x0 x1 x2 x3)), .val (.int (x3 &&& (3 : Int32))), .val (.int (own_f0_2 x0 x1 x2 x3)), .val (.int (own_f0_3 x0 x1 x2 x3)), .val (.ref a5), .val (.ref a17), .val (.int (1 : Int32))]) rfl kq) ?_
                    show own_Goes _ _ _ _ _ _ _ (T82.setTop (mkF m 191 #[.val (.long x0), .second, .val (.long x1), .second, .val (.long x2), .second, .val (.int x3), .val (.int (own_f0_1 x0 x1 x2 x3)), .val (.int (x3 &&& (3 : Int32))), .val (.int (own_f0_2 x0 x1 x2 x3)), .val (.int (own_f0_3 x0 x1 x2 x3)), .val (.ref a5), .val (.ref a17), .val (.int (1 : Int32))] []))
                    refine own_Goes.step (fun tq kq => XS.aload X82.here hx rfl (hb hby at_191) rfl rfl kq) ?_
                    show own_Goes _ _ _ _ _ _ _ (T82.setTop (mkF m 193 #[.val (.long x0), .second, .val (.long x1), .second, .val (.long x2), .second, .val (.int x3), .val (.int (own_f0_1 x0 x1 x2 x3)), .val (.int (x3 &&& (3 : Int32))), .val (.int (own_f0_2 x0 x1 x2 x3)), .val (.int (own_f0_3 x0 x1 x2 x3)), .val (.ref a5), .val (.ref a17), .val (.int (1 : Int32))] [(.ref a17)]))
                    obtain ⟨w83, T83, L83, q83, Y83, st83⟩ := own_virt X82 hx hZ e82 (own_W.exa Bf) hown (own_at hw 89 rfl) (own_at hw 90 rfl) (own_at hw 92 rfl) (own_at hw 91 rfl) (own_at hw 21 rfl) (own_at hw 93 rfl) (by decide) (own_m13m l Z a0 hw [] a17 kA sA dA pA (own_setJ (fun _ => 0) 0 x2) (own_setJ (fun _ => 0) 0 (own_f1_size ((8 : Int64) + (((XT.ushr x3 (4 : Int32)) &&& (7 : Int32)).toInt64)) (own_f0_4 x0 x1 x2 x3))) (own_set (fun _ => 0) 0 (nar .boolean (own_f7 (own_f1_delete ((8 : Int64) + (((XT.ushr x3 (4 : Int32)) &&& (7 : Int32)).toInt64)) (own_f0_4 x0 x1 x2 x3))))) 0 fs75 mx75 am75 (Int32.ofNat ixn70) iA S70 n0 T75.heap Bf If) (by decide) (W := 0) (by decide) (by decide) (by decide) (g := (mkF m 193 #[.val (.long x0), .second, .val (.long x1), .second, .val (.long x2), .second, .val (.int x3), .val (.int (own_f0_1 x0 x1 x2 x3)), .val (.int (x3 &&& (3 : Int32))), .val (.int (own_f0_2 x0 x1 x2 x3)), .val (.int (own_f0_3 x0 x1 x2 x3)), .val (.ref a5), .val (.ref a17), .val (.int (1 : Int32))] [(.ref a17)])) rfl (by rw [hml]; rfl) (argsL := []) (rest := []) (lenOf pd_13 rfl) rfl (by show 2 * 0 + _ ≤ _; exact Nat.le_of_eq rfl) (hb hby at_193)
                    obtain ⟨rfl, N83, B83, I83⟩ := q83
                    have Nn83 := Fr.app Nn75 N83
                    refine own_Goes.step st83 ?_
                    show own_Goes _ _ _ _ _ _ _ (T83.setTop (mkF m 196 #[.val (.long x0), .second, .val (.long x1), .second, .val (.long x2), .second, .val (.int x3), .val (.int (own_f0_1 x0 x1 x2 x3)), .val (.int (x3 &&& (3 : Int32))), .val (.int (own_f0_2 x0 x1 x2 x3)), .val (.int (own_f0_3 x0 x1 x2 x3)), .val (.ref a5), .val (.ref a17), .val (.int (1 : Int32))] []))
                    exact JS T83 _ _ Y83 rfl Nn83 _ _ _ _ _ _ _ _ _ _ B83 I83 IV75
            · refine own_Goes.step (fun tq kq => XS.icmpNo Y34.here hx rfl (hb hby at_103) rfl (XT.ii_lt_f hc38) kq) ?_
              show own_Goes _ _ _ _ _ _ _ (T34.setTop (mkF m 106 #[.val (.long x0), .second, .val (.long x1), .second, .val (.long x2), .second, .val (.int x3), .val (.int (own_f0_1 x0 x1 x2 x3)), .val (.int (x3 &&& (3 : Int32))), .val (.int (own_f0_2 x0 x1 x2 x3)), .val (.int (own_f0_3 x0 x1 x2 x3)), .val (.ref a5), .val (.ref a17), .unset] []))
              refine own_Goes.step (fun tq kq => XS.aload Y34.here hx rfl (hb hby at_106) rfl rfl kq) ?_
              show own_Goes _ _ _ _ _ _ _ (T34.setTop (mkF m 108 #[.val (.long x0), .second, .val (.long x1), .second, .val (.long x2), .second, .val (.int x3), .val (.int (own_f0_1 x0 x1 x2 x3)), .val (.int (x3 &&& (3 : Int32))), .val (.int (own_f0_2 x0 x1 x2 x3)), .val (.int (own_f0_3 x0 x1 x2 x3)), .val (.ref a5), .val (.ref a17), .unset] [(.ref a17)]))
              refine own_Goes.step (fun tq kq => XT.lloadN Y34.here hx rfl (hb hby at_108) rfl kq) ?_
              show own_Goes _ _ _ _ _ _ _ (T34.setTop (mkF m 109 #[.val (.long x0), .second, .val (.long x1), .second, .val (.long x2), .second, .val (.int x3), .val (.int (own_f0_1 x0 x1 x2 x3)), .val (.int (x3 &&& (3 : Int32))), .val (.int (own_f0_2 x0 x1 x2 x3)), .val (.int (own_f0_3 x0 x1 x2 x3)), .val (.ref a5), .val (.ref a17), .unset] [(.long x0), (.ref a17)]))
              refine own_Goes.step (fun tq kq => XS.aload Y34.here hx rfl (hb hby at_109) rfl rfl kq) ?_
              show own_Goes _ _ _ _ _ _ _ (T34.setTop (mkF m 111 #[.val (.long x0), .second, .val (.long x1), .second, .val (.long x2), .second, .val (.int x3), .val (.int (own_f0_1 x0 x1 x2 x3)), .val (.int (x3 &&& (3 : Int32))), .val (.int (own_f0_2 x0 x1 x2 x3)), .val (.int (own_f0_3 x0 x1 x2 x3)), .val (.ref a5), .val (.ref a17), .unset] [(.ref a5), (.long x0), (.ref a17)]))
              obtain ⟨w84, T84, L84, q84, Y84, st84⟩ := own_virt Y34 hx hZ rfl (own_W.exa B34) hown (own_at hw 39 rfl) (own_at hw 40 rfl) (own_at hw 42 rfl) (own_at hw 41 rfl) (own_at hw 21 rfl) (own_at hw 43 rfl) (by decide) (own_m5n l Z a0 hw [] a17 x0 a5 kA sA dA pA (fun _ => 0) (fun _ => 0) (fun _ => 0) 0 0 0 0 (-1 : Int32) 0 (own_f1_size ((8 : Int64) + (((XT.ushr x3 (4 : Int32)) &&& (7 : Int32)).toInt64)) (own_f0_4 x0 x1 x2 x3)) (own_f1_delete ((8 : Int64) + (((XT.ushr x3 (4 : Int32)) &&& (7 : Int32)).toInt64)) (own_f0_4 x0 x1 x2 x3)) n0 T34.heap B34 f35 f36 f37 (own_flag x0 x1 x2 x3) en_w en_kA en_sA en_dA en_pA (by decide)) (by decide) (W := 0) (by decide) (by decide) (by decide) (g := (mkF m 111 #[.val (.long x0), .second, .val (.long x1), .second, .val (.long x2), .second, .val (.int x3), .val (.int (own_f0_1 x0 x1 x2 x3)), .val (.int (x3 &&& (3 : Int32))), .val (.int (own_f0_2 x0 x1 x2 x3)), .val (.int (own_f0_3 x0 x1 x2 x3)), .val (.ref a5), .val (.ref a17), .unset] [(.ref a5), (.long x0), (.ref a17)])) rfl (by rw [hml]; rfl) (argsL := [(.long x0), (.ref a5)]) (rest := []) (lenOf pd_5 rfl) rfl (by show 2 * 0 + _ ≤ _; exact Nat.le_of_eq rfl) (hb hby at_111)
              obtain ⟨rfl, N84, K84, fs84, mx84, am84, -, B84⟩ := q84
              have Nn84 := Fr.app Nn34 N84
              have f85 := f35.keep K84
              have f86 := f36.keep K84 (own_nin4 en_w en_kA en_sA en_dA)
              have f87 := f37.keep K84 (own_nin4 en_w en_kA en_sA en_dA)
              refine own_Goes.step st84 ?_
              show own_Goes _ _ _ _ _ _ _ (T84.setTop (mkF m 114 #[.val (.long x0), .second, .val (.long x1), .second, .val (.long x2), .second, .val (.int x3), .val (.int (own_f0_1 x0 x1 x2 x3)), .val (.int (x3 &&& (3 : Int32))), .val (.int (own_f0_2 x0 x1 x2 x3)), .val (.int (own_f0_3 x0 x1 x2 x3)), .val (.ref a5), .val (.ref a17), .unset] []))
              refine own_Goes.step (fun tq kq => XS.iload Y84.here hx rfl (hb hby at_114) rfl kq) ?_
              show own_Goes _ _ _ _ _ _ _ (T84.setTop (mkF m 116 #[.val (.long x0), .second, .val (.long x1), .second, .val (.long x2), .second, .val (.int x3), .val (.int (own_f0_1 x0 x1 x2 x3)), .val (.int (x3 &&& (3 : Int32))), .val (.int (own_f0_2 x0 x1 x2 x3)), .val (.int (own_f0_3 x0 x1 x2 x3)), .val (.ref a5), .val (.ref a17), .unset] [(.int (own_f0_1 x0 x1 x2 x3))]))
              refine own_Goes.step (fun tq kq => XT.iconstV Y84.here hx rfl (2 : Int32) (hb hby at_116) (by decide) kq) ?_
              show own_Goes _ _ _ _ _ _ _ (T84.setTop (mkF m 117 #[.val (.long x0), .second, .val (.long x1), .second, .val (.long x2), .second, .val (.int x3), .val (.int (own_f0_1 x0 x1 x2 x3)), .val (.int (x3 &&& (3 : Int32))), .val (.int (own_f0_2 x0 x1 x2 x3)), .val (.int (own_f0_3 x0 x1 x2 x3)), .val (.ref a5), .val (.ref a17), .unset] [(.int (2 : Int32)), (.int (own_f0_1 x0 x1 x2 x3))]))
              by_cases hc88 : (own_f0_1 x0 x1 x2 x3) < (2 : Int32)
              · refine own_Goes.step (fun tq kq => XS.icmpYes Y84.here hx rfl (pc0 := 117) (pc' := 128) rfl (hb hby at_117) rfl (XT.ii_lt_t hc88) (by decide) (by decide) kq) ?_
                show own_Goes _ _ _ _ _ _ _ (T84.setTop (mkF m 128 #[.val (.long x0), .second, .val (.long x1), .second, .val (.long x2), .second, .val (.int x3), .val (.int (own_f0_1 x0 x1 x2 x3)), .val (.int (x3 &&& (3 : Int32))), .val (.int (own_f0_2 x0 x1 x2 x3)), .val (.int (own_f0_3 x0 x1 x2 x3)), .val (.ref a5), .val (.ref a17), .unset] []))
                have JS : ∀ (T : State) (lc : List Loc) (h : Heap) (X : Stand p l e room_1 s m #[(.long x0), (.long x1), (.long x2), (.int x3)] below meth c T lc 7 77) (eT : T.heap = h) (NN : Fr n0 lc) (iA : Addr) (S : Nat → Int32) (ixn : Nat) (Sz : Nat → Int64) (D : Nat → Int32) (fs : Int64) (mx am ix la : Int32) (BB : own_W Z h n0 a17 kA sA dA pA (.ref iA) (own_setJ (own_setJ (fun _ => 0) 0 x0) 1 x2) Sz D 1 fs mx am ix la) (II : own_I Z h n0 a17 kA sA dA pA iA S) (IV : own_Inv (own_setJ (own_setJ (fun _ => 0) 0 x0) 1 x2) 1 S ixn), own_Goes p e below s (own_F0 Z x0 x1 x2 x3 n0 h0) room_1.cells room_1.slots (T.setTop (mkF m 196 #[.val (.long x0), .second, .val (.long x1), .second, .val (.long x2), .second, .val (.int x3), .val (.int (own_f0_1 x0 x1 x2 x3)), .val (.int (x3 &&& (3 : Int32))), .val (.int (own_f0_2 x0 x1 x2 x3)), .val (.int (own_f0_3 x0 x1 x2 x3)), .val (.ref a5), .val (.ref a17), .val (.int (1 : Int32))] [])) := by
                  intro T lc h X eT NN iA S ixn Sz D fs mx am ix la BB II IV
                  refine own_Goes.step (fun tq kq => XS.iload X.here hx rfl (hb hby at_196) rfl kq) ?_
                  show own_Goes _ _ _ _ _ _ _ (T.setTop (mkF m 198 #[.val (.long x0), .second, .val (.long x1), .second, .val (.long x2), .second, .val (.int x3), .val (.int (own_f0_1 x0 x1 x2 x3)), .val (.int (x3 &&& (3 : Int32))), .val (.int (own_f0_2 x0 x1 x2 x3)), .val (.int (own_f0_3 x0 x1 x2 x3)), .val (.ref a5), .val (.ref a17), .val (.int (1 : Int32))] [(.int (1 : Int32))]))
                  refine own_Goes.step (fun tq kq => XS.aload X.here hx rfl (hb hby at_198) rfl rfl kq) ?_
                  show own_Goes _ _ _ _ _ _ _ (T.setTop (mkF m 200 #[.val (.long x0), .second, .val (.long x1), .second, .val (.long x2), .second, .val (.int x3), .val (.int (own_f0_1 x0 x1 x2 x3)), .val (.int (x3 &&& (3 : Int32))), .val (.int (own_f0_2 x0 x1 x2 x3)), .val (.int (own_f0_3 x0 x1 x2 x3)), .val (.ref a5), .val (.ref a17), .val (.int (1 : Int32))] [(.ref a17), (.int (1 : Int32))]))
                  obtain ⟨w89, T89, L89, q89, Y89, st89⟩ := own_virt X hx hZ eT (own_W.exa BB) hown (own_at hw 94 rfl) (own_at hw 95 rfl) (own_at hw 97 rfl) (own_at hw 96 rfl) (own_at hw 21 rfl) (own_at hw 98 rfl) (by decide) (own_m14 l Z a0 hw [] a17 (Int32.ofNat 1) h (own_W.count BB) ) (by decide) (W := 1) (by decide) (by decide) (by decide) (g := (mkF m 200 #[.val (.long x0), .second, .val (.long x1), .second, .val (.long x2), .second, .val (.int x3), .val (.int (own_f0_1 x0 x1 x2 x3)), .val (.int (x3 &&& (3 : Int32))), .val (.int (own_f0_2 x0 x1 x2 x3)), .val (.int (own_f0_3 x0 x1 x2 x3)), .val (.ref a5), .val (.ref a17), .val (.int (1 : Int32))] [(.ref a17), (.int (1 : Int32))])) rfl (by rw [hml]; rfl) (argsL := []) (rest := [(.int (1 : Int32))]) (lenOf pd_14 rfl) rfl (by show 2 * 0 + _ ≤ _; exact Nat.le_of_eq rfl) (hb hby at_200)
                  obtain ⟨e89, X89⟩ := own_clean q89 Y89 rfl rfl
                  obtain ⟨rfl, -, -⟩ := q89
                  refine own_Goes.step st89 ?_
                  show own_Goes _ _ _ _ _ _ _ (T89.setTop (mkF m 203 #[.val (.long x0), .second, .val (.long x1), .second, .val (.long x2), .second, .val (.int x3), .val (.int (own_f0_1 x0 x1 x2 x3)), .val (.int (x3 &&& (3 : Int32))), .val (.int (own_f0_2 x0 x1 x2 x3)), .val (.int (own_f0_3 x0 x1 x2 x3)), .val (.ref a5), .val (.ref a17), .val (.int (1 : Int32))] [(.int (own_f14 (Int32.ofNat 1))), (.int (1 : Int32))]))
                  refine own_Goes.step (fun tq kq => XS.iload X89.here hx rfl (hb hby at_203) rfl kq) ?_
                  show own_Goes _ _ _ _ _ _ _ (T89.setTop (mkF m 205 #[.val (.long x0), .second, .val (.long x1), .second, .val (.long x2), .second, .val (.int x3), .val (.int (own_f0_1 x0 x1 x2 x3)), .val (.int (x3 &&& (3 : Int32))), .val (.int (own_f0_2 x0 x1 x2 x3)), .val (.int (own_f0_3 x0 x1 x2 x3)), .val (.ref a5), .val (.ref a17), .val (.int (1 : Int32))] [(.int (own_f0_1 x0 x1 x2 x3)), (.int (own_f14 (Int32.ofNat 1))), (.int (1 : Int32))]))
                  have J97 : own_Goes p e below s (own_F0 Z x0 x1 x2 x3 n0 h0) room_1.cells room_1.slots (T89.setTop (mkF m 213 #[.val (.long x0), .second, .val (.long x1), .second, .val (.long x2), .second, .val (.int x3), .val (.int (own_f0_1 x0 x1 x2 x3)), .val (.int (x3 &&& (3 : Int32))), .val (.int (own_f0_2 x0 x1 x2 x3)), .val (.int (own_f0_3 x0 x1 x2 x3)), .val (.ref a5), .val (.ref a17), .val (.int (1 : Int32))] [(.int (own_f0_5 x0 x1 x2 x3)), (.int (own_f14 (Int32.ofNat 1))), (.int (1 : Int32))])) := by
                    refine own_Goes.step (fun tq kq => XS.icmpNo X89.here hx rfl (hb hby at_213) rfl (XT.ii_ne_f (own_emp1 x0 x1 x2 x3 hc38 hc88)) kq) ?_
                    show own_Goes _ _ _ _ _ _ _ (T89.setTop (mkF m 216 #[.val (.long x0), .second, .val (.long x1), .second, .val (.long x2), .second, .val (.int x3), .val (.int (own_f0_1 x0 x1 x2 x3)), .val (.int (x3 &&& (3 : Int32))), .val (.int (own_f0_2 x0 x1 x2 x3)), .val (.int (own_f0_3 x0 x1 x2 x3)), .val (.ref a5), .val (.ref a17), .val (.int (1 : Int32))] [(.int (1 : Int32))]))
                    refine own_Goes.step (fun tq kq => XT.iconstV X89.here hx rfl (1 : Int32) (hb hby at_216) (by decide) kq) ?_
                    show own_Goes _ _ _ _ _ _ _ (T89.setTop (mkF m 217 #[.val (.long x0), .second, .val (.long x1), .second, .val (.long x2), .second, .val (.int x3), .val (.int (own_f0_1 x0 x1 x2 x3)), .val (.int (x3 &&& (3 : Int32))), .val (.int (own_f0_2 x0 x1 x2 x3)), .val (.int (own_f0_3 x0 x1 x2 x3)), .val (.ref a5), .val (.ref a17), .val (.int (1 : Int32))] [(.int (1 : Int32)), (.int (1 : Int32))]))
                    refine own_Goes.step (fun tq kq => XS.goto X89.here hx rfl (pc0 := 217) (pc' := 221) rfl (hb hby at_217) (by decide) (by decide) kq) ?_
                    show own_Goes _ _ _ _ _ _ _ (T89.setTop (mkF m 221 #[.val (.long x0), .second, .val (.long x1), .second, .val (.long x2), .second, .val (.int x3), .val (.int (own_f0_1 x0 x1 x2 x3)), .val (.int (x3 &&& (3 : Int32))), .val (.int (own_f0_2 x0 x1 x2 x3)), .val (.int (own_f0_3 x0 x1 x2 x3)), .val (.ref a5), .val (.ref a17), .val (.int (1 : Int32))] [(.int (1 : Int32)), (.int (1 : Int32))]))
                    refine own_Goes.step (fun tq kq => XS.iand X89.here hx rfl (hb hby at_221) rfl kq) ?_
                    show own_Goes _ _ _ _ _ _ _ (T89.setTop (mkF m 222 #[.val (.long x0), .second, .val (.long x1), .second, .val (.long x2), .second, .val (.int x3), .val (.int (own_f0_1 x0 x1 x2 x3)), .val (.int (x3 &&& (3 : Int32))), .val (.int (own_f0_2 x0 x1 x2 x3)), .val (.int (own_f0_3 x0 x1 x2 x3)), .val (.ref a5), .val (.ref a17), .val (.int (1 : Int32))] [(.int (1 : Int32))]))
                    refine own_Goes.step (fun tq kq => XS.istore X89.here hx rfl (hb hby at_222) rfl (l' := #[.val (.long x0), .second, .val (.long x1), .second, .val (.long x2), .second, .val (.int x3), .val (.int (own_f0_1 x0 x1 x2 x3)), .val (.int (x3 &&& (3 : Int32))), .val (.int (own_f0_2 x0 x1 x2 x3)), .val (.int (own_f0_3 x0 x1 x2 x3)), .val (.ref a5), .val (.ref a17), .val (.int (1 : Int32))]) rfl kq) ?_
                    show own_Goes _ _ _ _ _ _ _ (T89.setTop (mkF m 224 #[.val (.long x0), .second, .val (.long x1), .second, .val (.long x2), .second, .val (.int x3), .val (.int (own_f0_1 x0 x1 x2 x3)), .val (.int (x3 &&& (3 : Int32))), .val (.int (own_f0_2 x0 x1 x2 x3)), .val (.int (own_f0_3 x0 x1 x2 x3)), .val (.ref a5), .val (.ref a17), .val (.int (1 : Int32))] []))
                    refine own_Goes.step (fun tq kq => XS.iload X89.here hx rfl (hb hby at_224) rfl kq) ?_
                    show own_Goes _ _ _ _ _ _ _ (T89.setTop (mkF m 226 #[.val (.long x0), .second, .val (.long x1), .second, .val (.long x2), .second, .val (.int x3), .val (.int (own_f0_1 x0 x1 x2 x3)), .val (.int (x3 &&& (3 : Int32))), .val (.int (own_f0_2 x0 x1 x2 x3)), .val (.int (own_f0_3 x0 x1 x2 x3)), .val (.ref a5), .val (.ref a17), .val (.int (1 : Int32))] [(.int (1 : Int32))]))
                    refine own_Goes.step (fun tq kq => XS.aload X89.here hx rfl (hb hby at_226) rfl rfl kq) ?_
                    show own_Goes _ _ _ _ _ _ _ (T89.setTop (mkF m 228 #[.val (.long x0), .second, .val (.long x1), .second, .val (.long x2), .second, .val (.int x3), .val (.int (own_f0_1 x0 x1 x2 x3)), .val (.int (x3 &&& (3 : Int32))), .val (.int (own_f0_2 x0 x1 x2 x3)), .val (.int (own_f0_3 x0 x1 x2 x3)), .val (.ref a5), .val (.ref a17), .val (.int (1 : Int32))] [(.ref a17), (.int (1 : Int32))]))
                    refine own_Goes.step (fun tq kq => XT.lloadN X89.here hx rfl (hb hby at_228) rfl kq) ?_
                    show own_Goes _ _ _ _ _ _ _ (T89.setTop (mkF m 229 #[.val (.long x0), .second, .val (.long x1), .second, .val (.long x2), .second, .val (.int x3), .val (.int (own_f0_1 x0 x1 x2 x3)), .val (.int (x3 &&& (3 : Int32))), .val (.int (own_f0_2 x0 x1 x2 x3)), .val (.int (own_f0_3 x0 x1 x2 x3)), .val (.ref a5), .val (.ref a17), .val (.int (1 : Int32))] [(.long x0), (.ref a17), (.int (1 : Int32))]))
                    obtain ⟨t91, ht91, hm91⟩ := IV.find (by decide) x0
                    have hr91 := IV.says hm91
                    obtain ⟨w91, T91, L91, q91, Y91, st91⟩ := own_virt X89 hx hZ e89 (own_W.exa BB) hown (own_at hw 64 rfl) (own_at hw 65 rfl) (own_at hw 67 rfl) (own_at hw 66 rfl) (own_at hw 21 rfl) (own_at hw 68 rfl) (by decide) (own_m8s l Z a0 hw [] a17 x0 kA sA dA pA (own_setJ (own_setJ (fun _ => 0) 0 x0) 1 x2) Sz D 1 fs mx am la ix iA S t91 (own_mem (own_setJ (own_setJ (fun _ => 0) 0 x0) 1 x2) 1 x0) n0 h BB II (IV.1.ok (by decide)) hm91 ht91 hr91) (by decide) (W := 1) (by decide) (by decide) (by decide) (g := (mkF m 229 #[.val (.long x0), .second, .val (.long x1), .second, .val (.long x2), .second, .val (.int x3), .val (.int (own_f0_1 x0 x1 x2 x3)), .val (.int (x3 &&& (3 : Int32))), .val (.int (own_f0_2 x0 x1 x2 x3)), .val (.int (own_f0_3 x0 x1 x2 x3)), .val (.ref a5), .val (.ref a17), .val (.int (1 : Int32))] [(.long x0), (.ref a17), (.int (1 : Int32))])) rfl (by rw [hml]; rfl) (argsL := [(.long x0)]) (rest := [(.int (1 : Int32))]) (lenOf pd_8 rfl) rfl (by show 2 * 0 + _ ≤ _; exact Nat.le_of_eq rfl) (hb hby at_229)
                    obtain ⟨e91, X91⟩ := own_clean q91 Y91 rfl rfl
                    obtain ⟨rfl, -, -⟩ := q91
                    refine own_Goes.step st91 ?_
                    show own_Goes _ _ _ _ _ _ _ (T91.setTop (mkF m 232 #[.val (.long x0), .second, .val (.long x1), .second, .val (.long x2), .second, .val (.int x3), .val (.int (own_f0_1 x0 x1 x2 x3)), .val (.int (x3 &&& (3 : Int32))), .val (.int (own_f0_2 x0 x1 x2 x3)), .val (.int (own_f0_3 x0 x1 x2 x3)), .val (.ref a5), .val (.ref a17), .val (.int (1 : Int32))] [(.int (own_bi (own_mem (own_setJ (own_setJ (fun _ => 0) 0 x0) 1 x2) 1 x0))), (.int (1 : Int32))]))
                    refine own_Goes.step (fun tq kq => XT.lloadN X91.here hx rfl (hb hby at_232) rfl kq) ?_
                    show own_Goes _ _ _ _ _ _ _ (T91.setTop (mkF m 233 #[.val (.long x0), .second, .val (.long x1), .second, .val (.long x2), .second, .val (.int x3), .val (.int (own_f0_1 x0 x1 x2 x3)), .val (.int (x3 &&& (3 : Int32))), .val (.int (own_f0_2 x0 x1 x2 x3)), .val (.int (own_f0_3 x0 x1 x2 x3)), .val (.ref a5), .val (.ref a17), .val (.int (1 : Int32))] [(.long x0), (.int (own_bi (own_mem (own_setJ (own_setJ (fun _ => 0) 0 x0) 1 x2) 1 x0))), (.int (1 : Int32))]))
                    refine own_Goes.step (fun tq kq => XT.lloadN X91.here hx rfl (hb hby at_233) rfl kq) ?_
                    show own_Goes _ _ _ _ _ _ _ (T91.setTop (mkF m 234 #[.val (.long x0), .second, .val (.long x1), .second, .val (.long x2), .second, .val (.int x3), .val (.int (own_f0_1 x0 x1 x2 x3)), .val (.int (x3 &&& (3 : Int32))), .val (.int (own_f0_2 x0 x1 x2 x3)), .val (.int (own_f0_3 x0 x1 x2 x3)), .val (.ref a5), .val (.ref a17), .val (.int (1 : Int32))] [(.long x0), (.long x0), (.int (own_bi (own_mem (own_setJ (own_setJ (fun _ => 0) 0 x0) 1 x2) 1 x0))), (.int (1 : Int32))]))
                    refine own_Goes.step (fun tq kq => XT.lloadN X91.here hx rfl (hb hby at_234) rfl kq) ?_
                    show own_Goes _ _ _ _ _ _ _ (T91.setTop (mkF m 235 #[.val (.long x0), .second, .val (.long x1), .second, .val (.long x2), .second, .val (.int x3), .val (.int (own_f0_1 x0 x1 x2 x3)), .val (.int (x3 &&& (3 : Int32))), .val (.int (own_f0_2 x0 x1 x2 x3)), .val (.int (own_f0_3 x0 x1 x2 x3)), .val (.ref a5), .val (.ref a17), .val (.int (1 : Int32))] [(.long x1), (.long x0), (.long x0), (.int (own_bi (own_mem (own_setJ (own_setJ (fun _ => 0) 0 x0) 1 x2) 1 x0))), (.int (1 : Int32))]))
                    refine own_Goes.step (fun tq kq => XS.iload X91.here hx rfl (hb hby at_235) rfl kq) ?_
                    show own_Goes _ _ _ _ _ _ _ (T91.setTop (mkF m 237 #[.val (.long x0), .second, .val (.long x1), .second, .val (.long x2), .second, .val (.int x3), .val (.int (own_f0_1 x0 x1 x2 x3)), .val (.int (x3 &&& (3 : Int32))), .val (.int (own_f0_2 x0 x1 x2 x3)), .val (.int (own_f0_3 x0 x1 x2 x3)), .val (.ref a5), .val (.ref a17), .val (.int (1 : Int32))] [(.int (own_f0_1 x0 x1 x2 x3)), (.long x1), (.long x0), (.long x0), (.int (own_bi (own_mem (own_setJ (own_setJ (fun _ => 0) 0 x0) 1 x2) 1 x0))), (.int (1 : Int32))]))
                    obtain ⟨w92, T92, L92, q92, Y92, st92⟩ := own_stat X91 hx hZ e91 hown (own_at hw 99 rfl) (own_at hw 100 rfl) (own_at hw 101 rfl) (own_at hw 102 rfl) (by decide) (own_m15 l Z a0 hw [] x0 x0 x1 (own_f0_1 x0 x1 x2 x3) h ) (by decide) (W := 2) (by decide) (by decide) (by decide) (g := (mkF m 237 #[.val (.long x0), .second, .val (.long x1), .second, .val (.long x2), .second, .val (.int x3), .val (.int (own_f0_1 x0 x1 x2 x3)), .val (.int (x3 &&& (3 : Int32))), .val (.int (own_f0_2 x0 x1 x2 x3)), .val (.int (own_f0_3 x0 x1 x2 x3)), .val (.ref a5), .val (.ref a17), .val (.int (1 : Int32))] [(.int (own_f0_1 x0 x1 x2 x3)), (.long x1), (.long x0), (.long x0), (.int (own_bi (own_mem (own_setJ (own_setJ (fun _ => 0) 0 x0) 1 x2) 1 x0))), (.int (1 : Int32))])) rfl (by rw [hml]; rfl) (argsL := [(.long x0), (.long x0), (.long x1), (.int (own_f0_1 x0 x1 x2 x3))]) (rest := [(.int (own_bi (own_mem (own_setJ (own_setJ (fun _ => 0) 0 x0) 1 x2) 1 x0))), (.int (1 : Int32))]) (lenOf pd_15 rfl) rfl (by show 2 * 0 + _ ≤ _; exact Nat.le_of_eq rfl) (hb hby at_237)
                    obtain ⟨e92, X92⟩ := own_clean q92 Y92 rfl rfl
                    obtain ⟨rfl, -, -⟩ := q92
                    refine own_Goes.step st92 ?_
                    show own_Goes _ _ _ _ _ _ _ (T92.setTop (mkF m 240 #[.val (.long x0), .second, .val (.long x1), .second, .val (.long x2), .second, .val (.int x3), .val (.int (own_f0_1 x0 x1 x2 x3)), .val (.int (x3 &&& (3 : Int32))), .val (.int (own_f0_2 x0 x1 x2 x3)), .val (.int (own_f0_3 x0 x1 x2 x3)), .val (.ref a5), .val (.ref a17), .val (.int (1 : Int32))] [(.int (own_f15 x0 x0 x1 (own_f0_1 x0 x1 x2 x3))), (.int (own_bi (own_mem (own_setJ (own_setJ (fun _ => 0) 0 x0) 1 x2) 1 x0))), (.int (1 : Int32))]))
                    refine own_Goes.step (fun tq kq => XS.icmpNo X92.here hx rfl (hb hby at_240) rfl (XT.ii_ne_f (own_held1 rfl hc38 hc88)) kq) ?_
                    show own_Goes _ _ _ _ _ _ _ (T92.setTop (mkF m 243 #[.val (.long x0), .second, .val (.long x1), .second, .val (.long x2), .second, .val (.int x3), .val (.int (own_f0_1 x0 x1 x2 x3)), .val (.int (x3 &&& (3 : Int32))), .val (.int (own_f0_2 x0 x1 x2 x3)), .val (.int (own_f0_3 x0 x1 x2 x3)), .val (.ref a5), .val (.ref a17), .val (.int (1 : Int32))] [(.int (1 : Int32))]))
                    refine own_Goes.step (fun tq kq => XT.iconstV X92.here hx rfl (1 : Int32) (hb hby at_243) (by decide) kq) ?_
                    show own_Goes _ _ _ _ _ _ _ (T92.setTop (mkF m 244 #[.val (.long x0), .second, .val (.long x1), .second, .val (.long x2), .second, .val (.int x3), .val (.int (own_f0_1 x0 x1 x2 x3)), .val (.int (x3 &&& (3 : Int32))), .val (.int (own_f0_2 x0 x1 x2 x3)), .val (.int (own_f0_3 x0 x1 x2 x3)), .val (.ref a5), .val (.ref a17), .val (.int (1 : Int32))] [(.int (1 : Int32)), (.int (1 : Int32))]))
                    refine own_Goes.step (fun tq kq => XS.goto X92.here hx rfl (pc0 := 244) (pc' := 248) rfl (hb hby at_244) (by decide) (by decide) kq) ?_
                    show own_Goes _ _ _ _ _ _ _ (T92.setTop (mkF m 248 #[.val (.long x0), .second, .val (.long x1), .second, .val (.long x2), .second, .val (.int x3), .val (.int (own_f0_1 x0 x1 x2 x3)), .val (.int (x3 &&& (3 : Int32))), .val (.int (own_f0_2 x0 x1 x2 x3)), .val (.int (own_f0_3 x0 x1 x2 x3)), .val (.ref a5), .val (.ref a17), .val (.int (1 : Int32))] [(.int (1 : Int32)), (.int (1 : Int32))]))
                    refine own_Goes.step (fun tq kq => XS.iand X92.here hx rfl (hb hby at_248) rfl kq) ?_
                    show own_Goes _ _ _ _ _ _ _ (T92.setTop (mkF m 249 #[.val (.long x0), .second, .val (.long x1), .second, .val (.long x2), .second, .val (.int x3), .val (.int (own_f0_1 x0 x1 x2 x3)), .val (.int (x3 &&& (3 : Int32))), .val (.int (own_f0_2 x0 x1 x2 x3)), .val (.int (own_f0_3 x0 x1 x2 x3)), .val (.ref a5), .val (.ref a17), .val (.int (1 : Int32))] [(.int (1 : Int32))]))
                    refine own_Goes.step (fun tq kq => XS.istore X92.here hx rfl (hb hby at_249) rfl (l' := #[.val (.long x0), .second, .val (.long x1), .second, .val (.long x2), .second, .val (.int x3), .val (.int (own_f0_1 x0 x1 x2 x3)), .val (.int (x3 &&& (3 : Int32))), .val (.int (own_f0_2 x0 x1 x2 x3)), .val (.int (own_f0_3 x0 x1 x2 x3)), .val (.ref a5), .val (.ref a17), .val (.int (1 : Int32))]) rfl kq) ?_
                    show own_Goes _ _ _ _ _ _ _ (T92.setTop (mkF m 251 #[.val (.long x0), .second, .val (.long x1), .second, .val (.long x2), .second, .val (.int x3), .val (.int (own_f0_1 x0 x1 x2 x3)), .val (.int (x3 &&& (3 : Int32))), .val (.int (own_f0_2 x0 x1 x2 x3)), .val (.int (own_f0_3 x0 x1 x2 x3)), .val (.ref a5), .val (.ref a17), .val (.int (1 : Int32))] []))
                    refine own_Goes.step (fun tq kq => XS.iload X92.here hx rfl (hb hby at_251) rfl kq) ?_
                    show own_Goes _ _ _ _ _ _ _ (T92.setTop (mkF m 253 #[.val (.long x0), .second, .val (.long x1), .second, .val (.long x2), .second, .val (.int x3), .val (.int (own_f0_1 x0 x1 x2 x3)), .val (.int (x3 &&& (3 : Int32))), .val (.int (own_f0_2 x0 x1 x2 x3)), .val (.int (own_f0_3 x0 x1 x2 x3)), .val (.ref a5), .val (.ref a17), .val (.int (1 : Int32))] [(.int (1 : Int32))]))
                    refine own_Goes.step (fun tq kq => XS.aload X92.here hx rfl (hb hby at_253) rfl rfl kq) ?_
                    show own_Goes _ _ _ _ _ _ _ (T92.setTop (mkF m 255 #[.val (.long x0), .second, .val (.long x1), .second, .val (.long x2), .second, .val (.int x3), .val (.int (own_f0_1 x0 x1 x2 x3)), .val (.int (x3 &&& (3 : Int32))), .val (.int (own_f0_2 x0 x1 x2 x3)), .val (.int (own_f0_3 x0 x1 x2 x3)), .val (.ref a5), .val (.ref a17), .val (.int (1 : Int32))] [(.ref a17), (.int (1 : Int32))]))
                    refine own_Goes.step (fun tq kq => XT.lloadN X92.here hx rfl (hb hby at_255) rfl kq) ?_
                    show own_Goes _ _ _ _ _ _ _ (T92.setTop (mkF m 256 #[.val (.long x0), .second, .val (.long x1), .second, .val (.long x2), .second, .val (.int x3), .val (.int (own_f0_1 x0 x1 x2 x3)), .val (.int (x3 &&& (3 : Int32))), .val (.int (own_f0_2 x0 x1 x2 x3)), .val (.int (own_f0_3 x0 x1 x2 x3)), .val (.ref a5), .val (.ref a17), .val (.int (1 : Int32))] [(.long x1), (.ref a17), (.int (1 : Int32))]))
                    obtain ⟨t93, ht93, hm93⟩ := IV.find (by decide) x1
                    have hr93 := IV.says hm93
                    obtain ⟨w93, T93, L93, q93, Y93, st93⟩ := own_virt X92 hx hZ e92 (own_W.exa BB) hown (own_at hw 64 rfl) (own_at hw 65 rfl) (own_at hw 67 rfl) (own_at hw 66 rfl) (own_at hw 21 rfl) (own_at hw 68 rfl) (by decide) (own_m8s l Z a0 hw [] a17 x1 kA sA dA pA (own_setJ (own_setJ (fun _ => 0) 0 x0) 1 x2) Sz D 1 fs mx am la ix iA S t93 (own_mem (own_setJ (own_setJ (fun _ => 0) 0 x0) 1 x2) 1 x1) n0 h BB II (IV.1.ok (by decide)) hm93 ht93 hr93) (by decide) (W := 1) (by decide) (by decide) (by decide) (g := (mkF m 256 #[.val (.long x0), .second, .val (.long x1), .second, .val (.long x2), .second, .val (.int x3), .val (.int (own_f0_1 x0 x1 x2 x3)), .val (.int (x3 &&& (3 : Int32))), .val (.int (own_f0_2 x0 x1 x2 x3)), .val (.int (own_f0_3 x0 x1 x2 x3)), .val (.ref a5), .val (.ref a17), .val (.int (1 : Int32))] [(.long x1), (.ref a17), (.int (1 : Int32))])) rfl (by rw [hml]; rfl) (argsL := [(.long x1)]) (rest := [(.int (1 : Int32))]) (lenOf pd_8 rfl) rfl (by show 2 * 0 + _ ≤ _; exact Nat.le_of_eq rfl) (hb hby at_256)
                    obtain ⟨e93, X93⟩ := own_clean q93 Y93 rfl rfl
                    obtain ⟨rfl, -, -⟩ := q93
                    refine own_Goes.step st93 ?_
                    show own_Goes _ _ _ _ _ _ _ (T93.setTop (mkF m 259 #[.val (.long x0), .second, .val (.long x1), .second, .val (.long x2), .second, .val (.int x3), .val (.int (own_f0_1 x0 x1 x2 x3)), .val (.int (x3 &&& (3 : Int32))), .val (.int (own_f0_2 x0 x1 x2 x3)), .val (.int (own_f0_3 x0 x1 x2 x3)), .val (.ref a5), .val (.ref a17), .val (.int (1 : Int32))] [(.int (own_bi (own_mem (own_setJ (own_setJ (fun _ => 0) 0 x0) 1 x2) 1 x1))), (.int (1 : Int32))]))
                    refine own_Goes.step (fun tq kq => XT.lloadN X93.here hx rfl (hb hby at_259) rfl kq) ?_
                    show own_Goes _ _ _ _ _ _ _ (T93.setTop (mkF m 260 #[.val (.long x0), .second, .val (.long x1), .second, .val (.long x2), .second, .val (.int x3), .val (.int (own_f0_1 x0 x1 x2 x3)), .val (.int (x3 &&& (3 : Int32))), .val (.int (own_f0_2 x0 x1 x2 x3)), .val (.int (own_f0_3 x0 x1 x2 x3)), .val (.ref a5), .val (.ref a17), .val (.int (1 : Int32))] [(.long x1), (.int (own_bi (own_mem (own_setJ (own_setJ (fun _ => 0) 0 x0) 1 x2) 1 x1))), (.int (1 : Int32))]))
                    refine own_Goes.step (fun tq kq => XT.lloadN X93.here hx rfl (hb hby at_260) rfl kq) ?_
                    show own_Goes _ _ _ _ _ _ _ (T93.setTop (mkF m 261 #[.val (.long x0), .second, .val (.long x1), .second, .val (.long x2), .second, .val (.int x3), .val (.int (own_f0_1 x0 x1 x2 x3)), .val (.int (x3 &&& (3 : Int32))), .val (.int (own_f0_2 x0 x1 x2 x3)), .val (.int (own_f0_3 x0 x1 x2 x3)), .val (.ref a5), .val (.ref a17), .val (.int (1 : Int32))] [(.long x0), (.long x1), (.int (own_bi (own_mem (own_setJ (own_setJ (fun _ => 0) 0 x0) 1 x2) 1 x1))), (.int (1 : Int32))]))
                    refine own_Goes.step (fun tq kq => XT.lloadN X93.here hx rfl (hb hby at_261) rfl kq) ?_
                    show own_Goes _ _ _ _ _ _ _ (T93.setTop (mkF m 262 #[.val (.long x0), .second, .val (.long x1), .second, .val (.long x2), .second, .val (.int x3), .val (.int (own_f0_1 x0 x1 x2 x3)), .val (.int (x3 &&& (3 : Int32))), .val (.int (own_f0_2 x0 x1 x2 x3)), .val (.int (own_f0_3 x0 x1 x2 x3)), .val (.ref a5), .val (.ref a17), .val (.int (1 : Int32))] [(.long x1), (.long x0), (.long x1), (.int (own_bi (own_mem (own_setJ (own_setJ (fun _ => 0) 0 x0) 1 x2) 1 x1))), (.int (1 : Int32))]))
                    refine own_Goes.step (fun tq kq => XS.iload X93.here hx rfl (hb hby at_262) rfl kq) ?_
                    show own_Goes _ _ _ _ _ _ _ (T93.setTop (mkF m 264 #[.val (.long x0), .second, .val (.long x1), .second, .val (.long x2), .second, .val (.int x3), .val (.int (own_f0_1 x0 x1 x2 x3)), .val (.int (x3 &&& (3 : Int32))), .val (.int (own_f0_2 x0 x1 x2 x3)), .val (.int (own_f0_3 x0 x1 x2 x3)), .val (.ref a5), .val (.ref a17), .val (.int (1 : Int32))] [(.int (own_f0_1 x0 x1 x2 x3)), (.long x1), (.long x0), (.long x1), (.int (own_bi (own_mem (own_setJ (own_setJ (fun _ => 0) 0 x0) 1 x2) 1 x1))), (.int (1 : Int32))]))
                    obtain ⟨w94, T94, L94, q94, Y94, st94⟩ := own_stat X93 hx hZ e93 hown (own_at hw 99 rfl) (own_at hw 100 rfl) (own_at hw 101 rfl) (own_at hw 102 rfl) (by decide) (own_m15 l Z a0 hw [] x1 x0 x1 (own_f0_1 x0 x1 x2 x3) h ) (by decide) (W := 2) (by decide) (by decide) (by decide) (g := (mkF m 264 #[.val (.long x0), .second, .val (.long x1), .second, .val (.long x2), .second, .val (.int x3), .val (.int (own_f0_1 x0 x1 x2 x3)), .val (.int (x3 &&& (3 : Int32))), .val (.int (own_f0_2 x0 x1 x2 x3)), .val (.int (own_f0_3 x0 x1 x2 x3)), .val (.ref a5), .val (.ref a17), .val (.int (1 : Int32))] [(.int (own_f0_1 x0 x1 x2 x3)), (.long x1), (.long x0), (.long x1), (.int (own_bi (own_mem (own_setJ (own_setJ (fun _ => 0) 0 x0) 1 x2) 1 x1))), (.int (1 : Int32))])) rfl (by rw [hml]; rfl) (argsL := [(.long x1), (.long x0), (.long x1), (.int (own_f0_1 x0 x1 x2 x3))]) (rest := [(.int (own_bi (own_mem (own_setJ (own_setJ (fun _ => 0) 0 x0) 1 x2) 1 x1))), (.int (1 : Int32))]) (lenOf pd_15 rfl) rfl (by show 2 * 0 + _ ≤ _; exact Nat.le_of_eq rfl) (hb hby at_264)
                    obtain ⟨e94, X94⟩ := own_clean q94 Y94 rfl rfl
                    obtain ⟨rfl, -, -⟩ := q94
                    refine own_Goes.step st94 ?_
                    show own_Goes _ _ _ _ _ _ _ (T94.setTop (mkF m 267 #[.val (.long x0), .second, .val (.long x1), .second, .val (.long x2), .second, .val (.int x3), .val (.int (own_f0_1 x0 x1 x2 x3)), .val (.int (x3 &&& (3 : Int32))), .val (.int (own_f0_2 x0 x1 x2 x3)), .val (.int (own_f0_3 x0 x1 x2 x3)), .val (.ref a5), .val (.ref a17), .val (.int (1 : Int32))] [(.int (own_f15 x1 x0 x1 (own_f0_1 x0 x1 x2 x3))), (.int (own_bi (own_mem (own_setJ (own_setJ (fun _ => 0) 0 x0) 1 x2) 1 x1))), (.int (1 : Int32))]))
                    refine own_Goes.step (fun tq kq => XS.icmpNo X94.here hx rfl (hb hby at_267) rfl (XT.ii_ne_f (own_held1 rfl hc38 hc88)) kq) ?_
                    show own_Goes _ _ _ _ _ _ _ (T94.setTop (mkF m 270 #[.val (.long x0), .second, .val (.long x1), .second, .val (.long x2), .second, .val (.int x3), .val (.int (own_f0_1 x0 x1 x2 x3)), .val (.int (x3 &&& (3 : Int32))), .val (.int (own_f0_2 x0 x1 x2 x3)), .val (.int (own_f0_3 x0 x1 x2 x3)), .val (.ref a5), .val (.ref a17), .val (.int (1 : Int32))] [(.int (1 : Int32))]))
                    refine own_Goes.step (fun tq kq => XT.iconstV X94.here hx rfl (1 : Int32) (hb hby at_270) (by decide) kq) ?_
                    show own_Goes _ _ _ _ _ _ _ (T94.setTop (mkF m 271 #[.val (.long x0), .second, .val (.long x1), .second, .val (.long x2), .second, .val (.int x3), .val (.int (own_f0_1 x0 x1 x2 x3)), .val (.int (x3 &&& (3 : Int32))), .val (.int (own_f0_2 x0 x1 x2 x3)), .val (.int (own_f0_3 x0 x1 x2 x3)), .val (.ref a5), .val (.ref a17), .val (.int (1 : Int32))] [(.int (1 : Int32)), (.int (1 : Int32))]))
                    refine own_Goes.step (fun tq kq => XS.goto X94.here hx rfl (pc0 := 271) (pc' := 275) rfl (hb hby at_271) (by decide) (by decide) kq) ?_
                    show own_Goes _ _ _ _ _ _ _ (T94.setTop (mkF m 275 #[.val (.long x0), .second, .val (.long x1), .second, .val (.long x2), .second, .val (.int x3), .val (.int (own_f0_1 x0 x1 x2 x3)), .val (.int (x3 &&& (3 : Int32))), .val (.int (own_f0_2 x0 x1 x2 x3)), .val (.int (own_f0_3 x0 x1 x2 x3)), .val (.ref a5), .val (.ref a17), .val (.int (1 : Int32))] [(.int (1 : Int32)), (.int (1 : Int32))]))
                    refine own_Goes.step (fun tq kq => XS.iand X94.here hx rfl (hb hby at_275) rfl kq) ?_
                    show own_Goes _ _ _ _ _ _ _ (T94.setTop (mkF m 276 #[.val (.long x0), .second, .val (.long x1), .second, .val (.long x2), .second, .val (.int x3), .val (.int (own_f0_1 x0 x1 x2 x3)), .val (.int (x3 &&& (3 : Int32))), .val (.int (own_f0_2 x0 x1 x2 x3)), .val (.int (own_f0_3 x0 x1 x2 x3)), .val (.ref a5), .val (.ref a17), .val (.int (1 : Int32))] [(.int (1 : Int32))]))
                    refine own_Goes.step (fun tq kq => XS.istore X94.here hx rfl (hb hby at_276) rfl (l' := #[.val (.long x0), .second, .val (.long x1), .second, .val (.long x2), .second, .val (.int x3), .val (.int (own_f0_1 x0 x1 x2 x3)), .val (.int (x3 &&& (3 : Int32))), .val (.int (own_f0_2 x0 x1 x2 x3)), .val (.int (own_f0_3 x0 x1 x2 x3)), .val (.ref a5), .val (.ref a17), .val (.int (1 : Int32))]) rfl kq) ?_
                    show own_Goes _ _ _ _ _ _ _ (T94.setTop (mkF m 278 #[.val (.long x0), .second, .val (.long x1), .second, .val (.long x2), .second, .val (.int x3), .val (.int (own_f0_1 x0 x1 x2 x3)), .val (.int (x3 &&& (3 : Int32))), .val (.int (own_f0_2 x0 x1 x2 x3)), .val (.int (own_f0_3 x0 x1 x2 x3)), .val (.ref a5), .val (.ref a17), .val (.int (1 : Int32))] []))
                    refine own_Goes.step (fun tq kq => XS.iload X94.here hx rfl (hb hby at_278) rfl kq) ?_
                    show own_Goes _ _ _ _ _ _ _ (T94.setTop (mkF m 280 #[.val (.long x0), .second, .val (.long x1), .second, .val (.long x2), .second, .val (.int x3), .val (.int (own_f0_1 x0 x1 x2 x3)), .val (.int (x3 &&& (3 : Int32))), .val (.int (own_f0_2 x0 x1 x2 x3)), .val (.int (own_f0_3 x0 x1 x2 x3)), .val (.ref a5), .val (.ref a17), .val (.int (1 : Int32))] [(.int (1 : Int32))]))
                    refine own_Goes.step (fun tq kq => XS.aload X94.here hx rfl (hb hby at_280) rfl rfl kq) ?_
                    show own_Goes _ _ _ _ _ _ _ (T94.setTop (mkF m 282 #[.val (.long x0), .second, .val (.long x1), .second, .val (.long x2), .second, .val (.int x3), .val (.int (own_f0_1 x0 x1 x2 x3)), .val (.int (x3 &&& (3 : Int32))), .val (.int (own_f0_2 x0 x1 x2 x3)), .val (.int (own_f0_3 x0 x1 x2 x3)), .val (.ref a5), .val (.ref a17), .val (.int (1 : Int32))] [(.ref a17), (.int (1 : Int32))]))
                    refine own_Goes.step (fun tq kq => XT.lload X94.here hx rfl (hb hby at_282) rfl kq) ?_
                    show own_Goes _ _ _ _ _ _ _ (T94.setTop (mkF m 284 #[.val (.long x0), .second, .val (.long x1), .second, .val (.long x2), .second, .val (.int x3), .val (.int (own_f0_1 x0 x1 x2 x3)), .val (.int (x3 &&& (3 : Int32))), .val (.int (own_f0_2 x0 x1 x2 x3)), .val (.int (own_f0_3 x0 x1 x2 x3)), .val (.ref a5), .val (.ref a17), .val (.int (1 : Int32))] [(.long x2), (.ref a17), (.int (1 : Int32))]))
                    obtain ⟨t95, ht95, hm95⟩ := IV.find (by decide) x2
                    have hr95 := IV.says hm95
                    obtain ⟨w95, T95, L95, q95, Y95, st95⟩ := own_virt X94 hx hZ e94 (own_W.exa BB) hown (own_at hw 64 rfl) (own_at hw 65 rfl) (own_at hw 67 rfl) (own_at hw 66 rfl) (own_at hw 21 rfl) (own_at hw 68 rfl) (by decide) (own_m8s l Z a0 hw [] a17 x2 kA sA dA pA (own_setJ (own_setJ (fun _ => 0) 0 x0) 1 x2) Sz D 1 fs mx am la ix iA S t95 (own_mem (own_setJ (own_setJ (fun _ => 0) 0 x0) 1 x2) 1 x2) n0 h BB II (IV.1.ok (by decide)) hm95 ht95 hr95) (by decide) (W := 1) (by decide) (by decide) (by decide) (g := (mkF m 284 #[.val (.long x0), .second, .val (.long x1), .second, .val (.long x2), .second, .val (.int x3), .val (.int (own_f0_1 x0 x1 x2 x3)), .val (.int (x3 &&& (3 : Int32))), .val (.int (own_f0_2 x0 x1 x2 x3)), .val (.int (own_f0_3 x0 x1 x2 x3)), .val (.ref a5), .val (.ref a17), .val (.int (1 : Int32))] [(.long x2), (.ref a17), (.int (1 : Int32))])) rfl (by rw [hml]; rfl) (argsL := [(.long x2)]) (rest := [(.int (1 : Int32))]) (lenOf pd_8 rfl) rfl (by show 2 * 0 + _ ≤ _; exact Nat.le_of_eq rfl) (hb hby at_284)
                    obtain ⟨e95, X95⟩ := own_clean q95 Y95 rfl rfl
                    obtain ⟨rfl, -, -⟩ := q95
                    refine own_Goes.step st95 ?_
                    show own_Goes _ _ _ _ _ _ _ (T95.setTop (mkF m 287 #[.val (.long x0), .second, .val (.long x1), .second, .val (.long x2), .second, .val (.int x3), .val (.int (own_f0_1 x0 x1 x2 x3)), .val (.int (x3 &&& (3 : Int32))), .val (.int (own_f0_2 x0 x1 x2 x3)), .val (.int (own_f0_3 x0 x1 x2 x3)), .val (.ref a5), .val (.ref a17), .val (.int (1 : Int32))] [(.int (own_bi (own_mem (own_setJ (own_setJ (fun _ => 0) 0 x0) 1 x2) 1 x2))), (.int (1 : Int32))]))
                    refine own_Goes.step (fun tq kq => XT.lload X95.here hx rfl (hb hby at_287) rfl kq) ?_
                    show own_Goes _ _ _ _ _ _ _ (T95.setTop (mkF m 289 #[.val (.long x0), .second, .val (.long x1), .second, .val (.long x2), .second, .val (.int x3), .val (.int (own_f0_1 x0 x1 x2 x3)), .val (.int (x3 &&& (3 : Int32))), .val (.int (own_f0_2 x0 x1 x2 x3)), .val (.int (own_f0_3 x0 x1 x2 x3)), .val (.ref a5), .val (.ref a17), .val (.int (1 : Int32))] [(.long x2), (.int (own_bi (own_mem (own_setJ (own_setJ (fun _ => 0) 0 x0) 1 x2) 1 x2))), (.int (1 : Int32))]))
                    refine own_Goes.step (fun tq kq => XT.lloadN X95.here hx rfl (hb hby at_289) rfl kq) ?_
                    show own_Goes _ _ _ _ _ _ _ (T95.setTop (mkF m 290 #[.val (.long x0), .second, .val (.long x1), .second, .val (.long x2), .second, .val (.int x3), .val (.int (own_f0_1 x0 x1 x2 x3)), .val (.int (x3 &&& (3 : Int32))), .val (.int (own_f0_2 x0 x1 x2 x3)), .val (.int (own_f0_3 x0 x1 x2 x3)), .val (.ref a5), .val (.ref a17), .val (.int (1 : Int32))] [(.long x0), (.long x2), (.int (own_bi (own_mem (own_setJ (own_setJ (fun _ => 0) 0 x0) 1 x2) 1 x2))), (.int (1 : Int32))]))
                    refine own_Goes.step (fun tq kq => XT.lloadN X95.here hx rfl (hb hby at_290) rfl kq) ?_
                    show own_Goes _ _ _ _ _ _ _ (T95.setTop (mkF m 291 #[.val (.long x0), .second, .val (.long x1), .second, .val (.long x2), .second, .val (.int x3), .val (.int (own_f0_1 x0 x1 x2 x3)), .val (.int (x3 &&& (3 : Int32))), .val (.int (own_f0_2 x0 x1 x2 x3)), .val (.int (own_f0_3 x0 x1 x2 x3)), .val (.ref a5), .val (.ref a17), .val (.int (1 : Int32))] [(.long x1), (.long x0), (.long x2), (.int (own_bi (own_mem (own_setJ (own_setJ (fun _ => 0) 0 x0) 1 x2) 1 x2))), (.int (1 : Int32))]))
                    refine own_Goes.step (fun tq kq => XS.iload X95.here hx rfl (hb hby at_291) rfl kq) ?_
                    show own_Goes _ _ _ _ _ _ _ (T95.setTop (mkF m 293 #[.val (.long x0), .second, .val (.long x1), .second, .val (.long x2), .second, .val (.int x3), .val (.int (own_f0_1 x0 x1 x2 x3)), .val (.int (x3 &&& (3 : Int32))), .val (.int (own_f0_2 x0 x1 x2 x3)), .val (.int (own_f0_3 x0 x1 x2 x3)), .val (.ref a5), .val (.ref a17), .val (.int (1 : Int32))] [(.int (own_f0_1 x0 x1 x2 x3)), (.long x1), (.long x0), (.long x2), (.int (own_bi (own_mem (own_setJ (own_setJ (fun _ => 0) 0 x0) 1 x2) 1 x2))), (.int (1 : Int32))]))
                    obtain ⟨w96, T96, L96, q96, Y96, st96⟩ := own_stat X95 hx hZ e95 hown (own_at hw 99 rfl) (own_at hw 100 rfl) (own_at hw 101 rfl) (own_at hw 102 rfl) (by decide) (own_m15 l Z a0 hw [] x2 x0 x1 (own_f0_1 x0 x1 x2 x3) h ) (by decide) (W := 2) (by decide) (by decide) (by decide) (g := (mkF m 293 #[.val (.long x0), .second, .val (.long x1), .second, .val (.long x2), .second, .val (.int x3), .val (.int (own_f0_1 x0 x1 x2 x3)), .val (.int (x3 &&& (3 : Int32))), .val (.int (own_f0_2 x0 x1 x2 x3)), .val (.int (own_f0_3 x0 x1 x2 x3)), .val (.ref a5), .val (.ref a17), .val (.int (1 : Int32))] [(.int (own_f0_1 x0 x1 x2 x3)), (.long x1), (.long x0), (.long x2), (.int (own_bi (own_mem (own_setJ (own_setJ (fun _ => 0) 0 x0) 1 x2) 1 x2))), (.int (1 : Int32))])) rfl (by rw [hml]; rfl) (argsL := [(.long x2), (.long x0), (.long x1), (.int (own_f0_1 x0 x1 x2 x3))]) (rest := [(.int (own_bi (own_mem (own_setJ (own_setJ (fun _ => 0) 0 x0) 1 x2) 1 x2))), (.int (1 : Int32))]) (lenOf pd_15 rfl) rfl (by show 2 * 0 + _ ≤ _; exact Nat.le_of_eq rfl) (hb hby at_293)
                    obtain ⟨e96, X96⟩ := own_clean q96 Y96 rfl rfl
                    obtain ⟨rfl, -, -⟩ := q96
                    refine own_Goes.step st96 ?_
                    show own_Goes _ _ _ _ _ _ _ (T96.setTop (mkF m 296 #[.val (.long x0), .second, .val (.long x1), .second, .val (.long x2), .second, .val (.int x3), .val (.int (own_f0_1 x0 x1 x2 x3)), .val (.int (x3 &&& (3 : Int32))), .val (.int (own_f0_2 x0 x1 x2 x3)), .val (.int (own_f0_3 x0 x1 x2 x3)), .val (.ref a5), .val (.ref a17), .val (.int (1 : Int32))] [(.int (own_f15 x2 x0 x1 (own_f0_1 x0 x1 x2 x3))), (.int (own_bi (own_mem (own_setJ (own_setJ (fun _ => 0) 0 x0) 1 x2) 1 x2))), (.int (1 : Int32))]))
                    refine own_Goes.step (fun tq kq => XS.icmpNo X96.here hx rfl (hb hby at_296) rfl (XT.ii_ne_f (own_held1 rfl hc38 hc88)) kq) ?_
                    show own_Goes _ _ _ _ _ _ _ (T96.setTop (mkF m 299 #[.val (.long x0), .second, .val (.long x1), .second, .val (.long x2), .second, .val (.int x3), .val (.int (own_f0_1 x0 x1 x2 x3)), .val (.int (x3 &&& (3 : Int32))), .val (.int (own_f0_2 x0 x1 x2 x3)), .val (.int (own_f0_3 x0 x1 x2 x3)), .val (.ref a5), .val (.ref a17), .val (.int (1 : Int32))] [(.int (1 : Int32))]))
                    refine own_Goes.step (fun tq kq => XT.iconstV X96.here hx rfl (1 : Int32) (hb hby at_299) (by decide) kq) ?_
                    show own_Goes _ _ _ _ _ _ _ (T96.setTop (mkF m 300 #[.val (.long x0), .second, .val (.long x1), .second, .val (.long x2), .second, .val (.int x3), .val (.int (own_f0_1 x0 x1 x2 x3)), .val (.int (x3 &&& (3 : Int32))), .val (.int (own_f0_2 x0 x1 x2 x3)), .val (.int (own_f0_3 x0 x1 x2 x3)), .val (.ref a5), .val (.ref a17), .val (.int (1 : Int32))] [(.int (1 : Int32)), (.int (1 : Int32))]))
                    refine own_Goes.step (fun tq kq => XS.goto X96.here hx rfl (pc0 := 300) (pc' := 304) rfl (hb hby at_300) (by decide) (by decide) kq) ?_
                    show own_Goes _ _ _ _ _ _ _ (T96.setTop (mkF m 304 #[.val (.long x0), .second, .val (.long x1), .second, .val (.long x2), .second, .val (.int x3), .val (.int (own_f0_1 x0 x1 x2 x3)), .val (.int (x3 &&& (3 : Int32))), .val (.int (own_f0_2 x0 x1 x2 x3)), .val (.int (own_f0_3 x0 x1 x2 x3)), .val (.ref a5), .val (.ref a17), .val (.int (1 : Int32))] [(.int (1 : Int32)), (.int (1 : Int32))]))
                    refine own_Goes.step (fun tq kq => XS.iand X96.here hx rfl (hb hby at_304) rfl kq) ?_
                    show own_Goes _ _ _ _ _ _ _ (T96.setTop (mkF m 305 #[.val (.long x0), .second, .val (.long x1), .second, .val (.long x2), .second, .val (.int x3), .val (.int (own_f0_1 x0 x1 x2 x3)), .val (.int (x3 &&& (3 : Int32))), .val (.int (own_f0_2 x0 x1 x2 x3)), .val (.int (own_f0_3 x0 x1 x2 x3)), .val (.ref a5), .val (.ref a17), .val (.int (1 : Int32))] [(.int (1 : Int32))]))
                    refine own_Goes.step (fun tq kq => XS.istore X96.here hx rfl (hb hby at_305) rfl (l' := #[.val (.long x0), .second, .val (.long x1), .second, .val (.long x2), .second, .val (.int x3), .val (.int (own_f0_1 x0 x1 x2 x3)), .val (.int (x3 &&& (3 : Int32))), .val (.int (own_f0_2 x0 x1 x2 x3)), .val (.int (own_f0_3 x0 x1 x2 x3)), .val (.ref a5), .val (.ref a17), .val (.int (1 : Int32))]) rfl kq) ?_
                    show own_Goes _ _ _ _ _ _ _ (T96.setTop (mkF m 307 #[.val (.long x0), .second, .val (.long x1), .second, .val (.long x2), .second, .val (.int x3), .val (.int (own_f0_1 x0 x1 x2 x3)), .val (.int (x3 &&& (3 : Int32))), .val (.int (own_f0_2 x0 x1 x2 x3)), .val (.int (own_f0_3 x0 x1 x2 x3)), .val (.ref a5), .val (.ref a17), .val (.int (1 : Int32))] []))
                    refine own_Goes.step (fun tq kq => XS.iload X96.here hx rfl (hb hby at_307) rfl kq) ?_
                    show own_Goes _ _ _ _ _ _ _ (T96.setTop (mkF m 309 #[.val (.long x0), .second, .val (.long x1), .second, .val (.long x2), .second, .val (.int x3), .val (.int (own_f0_1 x0 x1 x2 x3)), .val (.int (x3 &&& (3 : Int32))), .val (.int (own_f0_2 x0 x1 x2 x3)), .val (.int (own_f0_3 x0 x1 x2 x3)), .val (.ref a5), .val (.ref a17), .val (.int (1 : Int32))] [(.int (1 : Int32))]))
                    exact own_endN X96 hx Bd.notSynchronized (t := .boolean) Bd.returns (by simp) (hb hby at_309) ⟨rfl, NN⟩ (by decide) (by decide)
                  by_cases hc90 : (own_f0_1 x0 x1 x2 x3) = (0 : Int32)
                  · refine own_Goes.step (fun tq kq => XS.ifNo X89.here hx rfl (hb hby at_205) rfl (XT.i0_ne_f hc90) kq) ?_
                    show own_Goes _ _ _ _ _ _ _ (T89.setTop (mkF m 208 #[.val (.long x0), .second, .val (.long x1), .second, .val (.long x2), .second, .val (.int x3), .val (.int (own_f0_1 x0 x1 x2 x3)), .val (.int (x3 &&& (3 : Int32))), .val (.int (own_f0_2 x0 x1 x2 x3)), .val (.int (own_f0_3 x0 x1 x2 x3)), .val (.ref a5), .val (.ref a17), .val (.int (1 : Int32))] [(.int (own_f14 (Int32.ofNat 1))), (.int (1 : Int32))]))
                    refine own_Goes.step (fun tq kq => XT.iconstV X89.here hx rfl (1 : Int32) (hb hby at_208) (by decide) kq) ?_
                    show own_Goes _ _ _ _ _ _ _ (T89.setTop (mkF m 209 #[.val (.long x0), .second, .val (.long x1), .second, .val (.long x2), .second, .val (.int x3), .val (.int (own_f0_1 x0 x1 x2 x3)), .val (.int (x3 &&& (3 : Int32))), .val (.int (own_f0_2 x0 x1 x2 x3)), .val (.int (own_f0_3 x0 x1 x2 x3)), .val (.ref a5), .val (.ref a17), .val (.int (1 : Int32))] [(.int (1 : Int32)), (.int (own_f14 (Int32.ofNat 1))), (.int (1 : Int32))]))
                    refine own_Goes.step (fun tq kq => XS.goto X89.here hx rfl (pc0 := 209) (pc' := 213) rfl (hb hby at_209) (by decide) (by decide) kq) ?_
                    show own_Goes _ _ _ _ _ _ _ (T89.setTop (mkF m 213 #[.val (.long x0), .second, .val (.long x1), .second, .val (.long x2), .second, .val (.int x3), .val (.int (own_f0_1 x0 x1 x2 x3)), .val (.int (x3 &&& (3 : Int32))), .val (.int (own_f0_2 x0 x1 x2 x3)), .val (.int (own_f0_3 x0 x1 x2 x3)), .val (.ref a5), .val (.ref a17), .val (.int (1 : Int32))] [(.int (1 : Int32)), (.int (own_f14 (Int32.ofNat 1))), (.int (1 : Int32))]))
                    rw [show (own_f0_5 x0 x1 x2 x3) = (1 : Int32) from by simp only [own_f0_5, if_pos hc90]] at J97
                    exact J97
                  · refine own_Goes.step (fun tq kq => XS.ifYes X89.here hx rfl (pc0 := 205) (pc' := 212) rfl (hb hby at_205) rfl (XT.i0_ne_t hc90) (by decide) (by decide) kq) ?_
                    show own_Goes _ _ _ _ _ _ _ (T89.setTop (mkF m 212 #[.val (.long x0), .second, .val (.long x1), .second, .val (.long x2), .second, .val (.int x3), .val (.int (own_f0_1 x0 x1 x2 x3)), .val (.int (x3 &&& (3 : Int32))), .val (.int (own_f0_2 x0 x1 x2 x3)), .val (.int (own_f0_3 x0 x1 x2 x3)), .val (.ref a5), .val (.ref a17), .val (.int (1 : Int32))] [(.int (own_f14 (Int32.ofNat 1))), (.int (1 : Int32))]))
                    refine own_Goes.step (fun tq kq => XT.iconstV X89.here hx rfl (0 : Int32) (hb hby at_212) (by decide) kq) ?_
                    show own_Goes _ _ _ _ _ _ _ (T89.setTop (mkF m 213 #[.val (.long x0), .second, .val (.long x1), .second, .val (.long x2), .second, .val (.int x3), .val (.int (own_f0_1 x0 x1 x2 x3)), .val (.int (x3 &&& (3 : Int32))), .val (.int (own_f0_2 x0 x1 x2 x3)), .val (.int (own_f0_3 x0 x1 x2 x3)), .val (.ref a5), .val (.ref a17), .val (.int (1 : Int32))] [(.int (0 : Int32)), (.int (own_f14 (Int32.ofNat 1))), (.int (1 : Int32))]))
                    rw [show (own_f0_5 x0 x1 x2 x3) = (0 : Int32) from by simp only [own_f0_5, if_neg hc90]] at J97
                    exact J97
                refine own_Goes.step (fun tq kq => XT.iconstV Y84.here hx rfl (1 : Int32) (hb hby at_128) (by decide) kq) ?_
                show own_Goes _ _ _ _ _ _ _ (T84.setTop (mkF m 129 #[.val (.long x0), .second, .val (.long x1), .second, .val (.long x2), .second, .val (.int x3), .val (.int (own_f0_1 x0 x1 x2 x3)), .val (.int (x3 &&& (3 : Int32))), .val (.int (own_f0_2 x0 x1 x2 x3)), .val (.int (own_f0_3 x0 x1 x2 x3)), .val (.ref a5), .val (.ref a17), .unset] [(.int (1 : Int32))]))
                refine own_Goes.step (fun tq kq => XS.istore Y84.here hx rfl (hb hby at_129) rfl (l' := #[.val (.long x0), .second, .val (.long x1), .second, .val (.long x2), .second, .val (.int x3), .val (.int (own_f0_1 x0 x1 x2 x3)), .val (.int (x3 &&& (3 : Int32))), .val (.int (own_f0_2 x0 x1 x2 x3)), .val (.int (own_f0_3 x0 x1 x2 x3)), .val (.ref a5), .val (.ref a17), .val (.int (1 : Int32))]) rfl kq) ?_
                show own_Goes _ _ _ _ _ _ _ (T84.setTop (mkF m 131 #[.val (.long x0), .second, .val (.long x1), .second, .val (.long x2), .second, .val (.int x3), .val (.int (own_f0_1 x0 x1 x2 x3)), .val (.int (x3 &&& (3 : Int32))), .val (.int (own_f0_2 x0 x1 x2 x3)), .val (.int (own_f0_3 x0 x1 x2 x3)), .val (.ref a5), .val (.ref a17), .val (.int (1 : Int32))] []))
                refine own_Goes.step (fun tq kq => XS.iload Y84.here hx rfl (hb hby at_131) rfl kq) ?_
                show own_Goes _ _ _ _ _ _ _ (T84.setTop (mkF m 133 #[.val (.long x0), .second, .val (.long x1), .second, .val (.long x2), .second, .val (.int x3), .val (.int (own_f0_1 x0 x1 x2 x3)), .val (.int (x3 &&& (3 : Int32))), .val (.int (own_f0_2 x0 x1 x2 x3)), .val (.int (own_f0_3 x0 x1 x2 x3)), .val (.ref a5), .val (.ref a17), .val (.int (1 : Int32))] [(.int (own_f0_2 x0 x1 x2 x3))]))
                by_cases hc98 : (own_f0_2 x0 x1 x2 x3) = (0 : Int32)
                · refine own_Goes.step (fun tq kq => XS.ifYes Y84.here hx rfl (pc0 := 133) (pc' := 165) rfl (hb hby at_133) rfl (XT.i0_eq_t hc98) (by decide) (by decide) kq) ?_
                  show own_Goes _ _ _ _ _ _ _ (T84.setTop (mkF m 165 #[.val (.long x0), .second, .val (.long x1), .second, .val (.long x2), .second, .val (.int x3), .val (.int (own_f0_1 x0 x1 x2 x3)), .val (.int (x3 &&& (3 : Int32))), .val (.int (own_f0_2 x0 x1 x2 x3)), .val (.int (own_f0_3 x0 x1 x2 x3)), .val (.ref a5), .val (.ref a17), .val (.int (1 : Int32))] []))
                  refine own_Goes.step (fun tq kq => XS.aload Y84.here hx rfl (hb hby at_165) rfl rfl kq) ?_
                  show own_Goes _ _ _ _ _ _ _ (T84.setTop (mkF m 167 #[.val (.long x0), .second, .val (.long x1), .second, .val (.long x2), .second, .val (.int x3), .val (.int (own_f0_1 x0 x1 x2 x3)), .val (.int (x3 &&& (3 : Int32))), .val (.int (own_f0_2 x0 x1 x2 x3)), .val (.int (own_f0_3 x0 x1 x2 x3)), .val (.ref a5), .val (.ref a17), .val (.int (1 : Int32))] [(.ref a17)]))
                  refine own_Goes.step (fun tq kq => XT.lload Y84.here hx rfl (hb hby at_167) rfl kq) ?_
                  show own_Goes _ _ _ _ _ _ _ (T84.setTop (mkF m 169 #[.val (.long x0), .second, .val (.long x1), .second, .val (.long x2), .second, .val (.int x3), .val (.int (own_f0_1 x0 x1 x2 x3)), .val (.int (x3 &&& (3 : Int32))), .val (.int (own_f0_2 x0 x1 x2 x3)), .val (.int (own_f0_3 x0 x1 x2 x3)), .val (.ref a5), .val (.ref a17), .val (.int (1 : Int32))] [(.long x2), (.ref a17)]))
                  refine own_Goes.step (fun tq kq => XS.aload Y84.here hx rfl (hb hby at_169) rfl rfl kq) ?_
                  show own_Goes _ _ _ _ _ _ _ (T84.setTop (mkF m 171 #[.val (.long x0), .second, .val (.long x1), .second, .val (.long x2), .second, .val (.int x3), .val (.int (own_f0_1 x0 x1 x2 x3)), .val (.int (x3 &&& (3 : Int32))), .val (.int (own_f0_2 x0 x1 x2 x3)), .val (.int (own_f0_3 x0 x1 x2 x3)), .val (.ref a5), .val (.ref a17), .val (.int (1 : Int32))] [(.ref a5), (.long x2), (.ref a17)]))
                  obtain ⟨w99, T99, L99, q99, Y99, st99⟩ := own_virt Y84 hx hZ rfl (own_W.exa B84) hown (own_at hw 39 rfl) (own_at hw 40 rfl) (own_at hw 42 rfl) (own_at hw 41 rfl) (own_at hw 21 rfl) (own_at hw 43 rfl) (by decide) (own_m5n l Z a0 hw [] a17 x2 a5 kA sA dA pA (own_setJ (fun _ => 0) 0 x0) (own_setJ (fun _ => 0) 0 (own_f1_size ((8 : Int64) + (((XT.ushr x3 (4 : Int32)) &&& (7 : Int32)).toInt64)) (own_f0_4 x0 x1 x2 x3))) (own_set (fun _ => 0) 0 (nar .boolean (own_f7 (own_f1_delete ((8 : Int64) + (((XT.ushr x3 (4 : Int32)) &&& (7 : Int32)).toInt64)) (own_f0_4 x0 x1 x2 x3))))) 1 fs84 mx84 am84 (-1 : Int32) 0 (own_f1_size ((8 : Int64) + (((XT.ushr x3 (4 : Int32)) &&& (7 : Int32)).toInt64)) (own_f0_4 x0 x1 x2 x3)) (own_f1_delete ((8 : Int64) + (((XT.ushr x3 (4 : Int32)) &&& (7 : Int32)).toInt64)) (own_f0_4 x0 x1 x2 x3)) n0 T84.heap B84 f85 f86 f87 (own_flag x0 x1 x2 x3) en_w en_kA en_sA en_dA en_pA (by decide)) (by decide) (W := 0) (by decide) (by decide) (by decide) (g := (mkF m 171 #[.val (.long x0), .second, .val (.long x1), .second, .val (.long x2), .second, .val (.int x3), .val (.int (own_f0_1 x0 x1 x2 x3)), .val (.int (x3 &&& (3 : Int32))), .val (.int (own_f0_2 x0 x1 x2 x3)), .val (.int (own_f0_3 x0 x1 x2 x3)), .val (.ref a5), .val (.ref a17), .val (.int (1 : Int32))] [(.ref a5), (.long x2), (.ref a17)])) rfl (by rw [hml]; rfl) (argsL := [(.long x2), (.ref a5)]) (rest := []) (lenOf pd_5 rfl) rfl (by show 2 * 0 + _ ≤ _; exact Nat.le_of_eq rfl) (hb hby at_171)
                  obtain ⟨rfl, N99, K99, fs99, mx99, am99, -, B99⟩ := q99
                  have Nn99 := Fr.app Nn84 N99
                  have f100 := f85.keep K99
                  have f101 := f86.keep K99 (own_nin4 en_w en_kA en_sA en_dA)
                  have f102 := f87.keep K99 (own_nin4 en_w en_kA en_sA en_dA)
                  refine own_Goes.step st99 ?_
                  show own_Goes _ _ _ _ _ _ _ (T99.setTop (mkF m 174 #[.val (.long x0), .second, .val (.long x1), .second, .val (.long x2), .second, .val (.int x3), .val (.int (own_f0_1 x0 x1 x2 x3)), .val (.int (x3 &&& (3 : Int32))), .val (.int (own_f0_2 x0 x1 x2 x3)), .val (.int (own_f0_3 x0 x1 x2 x3)), .val (.ref a5), .val (.ref a17), .val (.int (1 : Int32))] []))
                  refine own_Goes.step (fun tq kq => XS.iload Y99.here hx rfl (hb hby at_174) rfl kq) ?_
                  show own_Goes _ _ _ _ _ _ _ (T99.setTop (mkF m 176 #[.val (.long x0), .second, .val (.long x1), .second, .val (.long x2), .second, .val (.int x3), .val (.int (own_f0_1 x0 x1 x2 x3)), .val (.int (x3 &&& (3 : Int32))), .val (.int (own_f0_2 x0 x1 x2 x3)), .val (.int (own_f0_3 x0 x1 x2 x3)), .val (.ref a5), .val (.ref a17), .val (.int (1 : Int32))] [(.int (own_f0_3 x0 x1 x2 x3))]))
                  by_cases hc103 : (own_f0_3 x0 x1 x2 x3) = (0 : Int32)
                  · refine own_Goes.step (fun tq kq => XS.ifYes Y99.here hx rfl (pc0 := 176) (pc' := 191) rfl (hb hby at_176) rfl (XT.i0_eq_t hc103) (by decide) (by decide) kq) ?_
                    show own_Goes _ _ _ _ _ _ _ (T99.setTop (mkF m 191 #[.val (.long x0), .second, .val (.long x1), .second, .val (.long x2), .second, .val (.int x3), .val (.int (own_f0_1 x0 x1 x2 x3)), .val (.int (x3 &&& (3 : Int32))), .val (.int (own_f0_2 x0 x1 x2 x3)), .val (.int (own_f0_3 x0 x1 x2 x3)), .val (.ref a5), .val (.ref a17), .val (.int (1 : Int32))] []))
                    refine own_Goes.step (fun tq kq => XS.aload Y99.here hx rfl (hb hby at_191) rfl rfl kq) ?_
                    show own_Goes _ _ _ _ _ _ _ (T99.setTop (mkF m 193 #[.val (.long x0), .second, .val (.long x1), .second, .val (.long x2), .second, .val (.int x3), .val (.int (own_f0_1 x0 x1 x2 x3)), .val (.int (x3 &&& (3 : Int32))), .val (.int (own_f0_2 x0 x1 x2 x3)), .val (.int (own_f0_3 x0 x1 x2 x3)), .val (.ref a5), .val (.ref a17), .val (.int (1 : Int32))] [(.ref a17)]))
                    obtain ⟨w104, T104, L104, q104, Y104, st104⟩ := own_virt Y99 hx hZ rfl (own_W.exa B99) hown (own_at hw 89 rfl) (own_at hw 90 rfl) (own_at hw 92 rfl) (own_at hw 91 rfl) (own_at hw 21 rfl) (own_at hw 93 rfl) (by decide) (own_m13n l Z a0 hw [] a17 kA sA dA pA (own_setJ (own_setJ (fun _ => 0) 0 x0) 1 x2) (own_setJ (own_setJ (fun _ => 0) 0 (own_f1_size ((8 : Int64) + (((XT.ushr x3 (4 : Int32)) &&& (7 : Int32)).toInt64)) (own_f0_4 x0 x1 x2 x3))) 1 (own_f1_size ((8 : Int64) + (((XT.ushr x3 (4 : Int32)) &&& (7 : Int32)).toInt64)) (own_f0_4 x0 x1 x2 x3))) (own_set (own_set (fun _ => 0) 0 (nar .boolean (own_f7 (own_f1_delete ((8 : Int64) + (((XT.ushr x3 (4 : Int32)) &&& (7 : Int32)).toInt64)) (own_f0_4 x0 x1 x2 x3))))) 1 (nar .boolean (own_f7 (own_f1_delete ((8 : Int64) + (((XT.ushr x3 (4 : Int32)) &&& (7 : Int32)).toInt64)) (own_f0_4 x0 x1 x2 x3))))) 1 fs99 mx99 am99 (-1 : Int32) 0 n0 T99.heap B99) (by decide) (W := 0) (by decide) (by decide) (by decide) (g := (mkF m 193 #[.val (.long x0), .second, .val (.long x1), .second, .val (.long x2), .second, .val (.int x3), .val (.int (own_f0_1 x0 x1 x2 x3)), .val (.int (x3 &&& (3 : Int32))), .val (.int (own_f0_2 x0 x1 x2 x3)), .val (.int (own_f0_3 x0 x1 x2 x3)), .val (.ref a5), .val (.ref a17), .val (.int (1 : Int32))] [(.ref a17)])) rfl (by rw [hml]; rfl) (argsL := []) (rest := []) (lenOf pd_13 rfl) rfl (by show 2 * 0 + _ ≤ _; exact Nat.le_of_eq rfl) (hb hby at_193)
                    obtain ⟨rfl, N104, B104⟩ := q104
                    have Nn104 := Fr.app Nn99 N104
                    refine own_Goes.step st104 ?_
                    show own_Goes _ _ _ _ _ _ _ (T104.setTop (mkF m 196 #[.val (.long x0), .second, .val (.long x1), .second, .val (.long x2), .second, .val (.int x3), .val (.int (own_f0_1 x0 x1 x2 x3)), .val (.int (x3 &&& (3 : Int32))), .val (.int (own_f0_2 x0 x1 x2 x3)), .val (.int (own_f0_3 x0 x1 x2 x3)), .val (.ref a5), .val (.ref a17), .val (.int (1 : Int32))] []))
                    refine own_Goes.step (fun tq kq => XS.iload Y104.here hx rfl (hb hby at_196) rfl kq) ?_
                    show own_Goes _ _ _ _ _ _ _ (T104.setTop (mkF m 198 #[.val (.long x0), .second, .val (.long x1), .second, .val (.long x2), .second, .val (.int x3), .val (.int (own_f0_1 x0 x1 x2 x3)), .val (.int (x3 &&& (3 : Int32))), .val (.int (own_f0_2 x0 x1 x2 x3)), .val (.int (own_f0_3 x0 x1 x2 x3)), .val (.ref a5), .val (.ref a17), .val (.int (1 : Int32))] [(.int (1 : Int32))]))
                    refine own_Goes.step (fun tq kq => XS.aload Y104.here hx rfl (hb hby at_198) rfl rfl kq) ?_
                    show own_Goes _ _ _ _ _ _ _ (T104.setTop (mkF m 200 #[.val (.long x0), .second, .val (.long x1), .second, .val (.long x2), .second, .val (.int x3), .val (.int (own_f0_1 x0 x1 x2 x3)), .val (.int (x3 &&& (3 : Int32))), .val (.int (own_f0_2 x0 x1 x2 x3)), .val (.int (own_f0_3 x0 x1 x2 x3)), .val (.ref a5), .val (.ref a17), .val (.int (1 : Int32))] [(.ref a17), (.int (1 : Int32))]))
                    obtain ⟨w105, T105, L105, q105, Y105, st105⟩ := own_virt Y104 hx hZ rfl (own_W.exa B104) hown (own_at hw 94 rfl) (own_at hw 95 rfl) (own_at hw 97 rfl) (own_at hw 96 rfl) (own_at hw 21 rfl) (own_at hw 98 rfl) (by decide) (own_m14 l Z a0 hw [] a17 (Int32.ofNat 1) T104.heap (own_W.count B104) ) (by decide) (W := 1) (by decide) (by decide) (by decide) (g := (mkF m 200 #[.val (.long x0), .second, .val (.long x1), .second, .val (.long x2), .second, .val (.int x3), .val (.int (own_f0_1 x0 x1 x2 x3)), .val (.int (x3 &&& (3 : Int32))), .val (.int (own_f0_2 x0 x1 x2 x3)), .val (.int (own_f0_3 x0 x1 x2 x3)), .val (.ref a5), .val (.ref a17), .val (.int (1 : Int32))] [(.ref a17), (.int (1 : Int32))])) rfl (by rw [hml]; rfl) (argsL := []) (rest := [(.int (1 : Int32))]) (lenOf pd_14 rfl) rfl (by show 2 * 0 + _ ≤ _; exact Nat.le_of_eq rfl) (hb hby at_200)
                    obtain ⟨e105, X105⟩ := own_clean q105 Y105 rfl rfl
                    obtain ⟨rfl, -, -⟩ := q105
                    refine own_Goes.step st105 ?_
                    show own_Goes _ _ _ _ _ _ _ (T105.setTop (mkF m 203 #[.val (.long x0), .second, .val (.long x1), .second, .val (.long x2), .second, .val (.int x3), .val (.int (own_f0_1 x0 x1 x2 x3)), .val (.int (x3 &&& (3 : Int32))), .val (.int (own_f0_2 x0 x1 x2 x3)), .val (.int (own_f0_3 x0 x1 x2 x3)), .val (.ref a5), .val (.ref a17), .val (.int (1 : Int32))] [(.int (own_f14 (Int32.ofNat 1))), (.int (1 : Int32))]))
                    refine own_Goes.step (fun tq kq => XS.iload X105.here hx rfl (hb hby at_203) rfl kq) ?_
                    show own_Goes _ _ _ _ _ _ _ (T105.setTop (mkF m 205 #[.val (.long x0), .second, .val (.long x1), .second, .val (.long x2), .second, .val (.int x3), .val (.int (own_f0_1 x0 x1 x2 x3)), .val (.int (x3 &&& (3 : Int32))), .val (.int (own_f0_2 x0 x1 x2 x3)), .val (.int (own_f0_3 x0 x1 x2 x3)), .val (.ref a5), .val (.ref a17), .val (.int (1 : Int32))] [(.int (own_f0_1 x0 x1 x2 x3)), (.int (own_f14 (Int32.ofNat 1))), (.int (1 : Int32))]))
                    have J113 : own_Goes p e below s (own_F0 Z x0 x1 x2 x3 n0 h0) room_1.cells room_1.slots (T105.setTop (mkF m 213 #[.val (.long x0), .second, .val (.long x1), .second, .val (.long x2), .second, .val (.int x3), .val (.int (own_f0_1 x0 x1 x2 x3)), .val (.int (x3 &&& (3 : Int32))), .val (.int (own_f0_2 x0 x1 x2 x3)), .val (.int (own_f0_3 x0 x1 x2 x3)), .val (.ref a5), .val (.ref a17), .val (.int (1 : Int32))] [(.int (own_f0_5 x0 x1 x2 x3)), (.int (own_f14 (Int32.ofNat 1))), (.int (1 : Int32))])) := by
                      refine own_Goes.step (fun tq kq => XS.icmpNo X105.here hx rfl (hb hby at_213) rfl (XT.ii_ne_f (own_emp1 x0 x1 x2 x3 hc38 hc88)) kq) ?_
                      show own_Goes _ _ _ _ _ _ _ (T105.setTop (mkF m 216 #[.val (.long x0), .second, .val (.long x1), .second, .val (.long x2), .second, .val (.int x3), .val (.int (own_f0_1 x0 x1 x2 x3)), .val (.int (x3 &&& (3 : Int32))), .val (.int (own_f0_2 x0 x1 x2 x3)), .val (.int (own_f0_3 x0 x1 x2 x3)), .val (.ref a5), .val (.ref a17), .val (.int (1 : Int32))] [(.int (1 : Int32))]))
                      refine own_Goes.step (fun tq kq => XT.iconstV X105.here hx rfl (1 : Int32) (hb hby at_216) (by decide) kq) ?_
                      show own_Goes _ _ _ _ _ _ _ (T105.setTop (mkF m 217 #[.val (.long x0), .second, .val (.long x1), .second, .val (.long x2), .second, .val (.int x3), .val (.int (own_f0_1 x0 x1 x2 x3)), .val (.int (x3 &&& (3 : Int32))), .val (.int (own_f0_2 x0 x1 x2 x3)), .val (.int (own_f0_3 x0 x1 x2 x3)), .val (.ref a5), .val (.ref a17), .val (.int (1 : Int32))] [(.int (1 : Int32)), (.int (1 : Int32))]))
                      refine own_Goes.step (fun tq kq => XS.goto X105.here hx rfl (pc0 := 217) (pc' := 221) rfl (hb hby at_217) (by decide) (by decide) kq) ?_
                      show own_Goes _ _ _ _ _ _ _ (T105.setTop (mkF m 221 #[.val (.long x0), .second, .val (.long x1), .second, .val (.long x2), .second, .val (.int x3), .val (.int (own_f0_1 x0 x1 x2 x3)), .val (.int (x3 &&& (3 : Int32))), .val (.int (own_f0_2 x0 x1 x2 x3)), .val (.int (own_f0_3 x0 x1 x2 x3)), .val (.ref a5), .val (.ref a17), .val (.int (1 : Int32))] [(.int (1 : Int32)), (.int (1 : Int32))]))
                      refine own_Goes.step (fun tq kq => XS.iand X105.here hx rfl (hb hby at_221) rfl kq) ?_
                      show own_Goes _ _ _ _ _ _ _ (T105.setTop (mkF m 222 #[.val (.long x0), .second, .val (.long x1), .second, .val (.long x2), .second, .val (.int x3), .val (.int (own_f0_1 x0 x1 x2 x3)), .val (.int (x3 &&& (3 : Int32))), .val (.int (own_f0_2 x0 x1 x2 x3)), .val (.int (own_f0_3 x0 x1 x2 x3)), .val (.ref a5), .val (.ref a17), .val (.int (1 : Int32))] [(.int (1 : Int32))]))
                      refine own_Goes.step (fun tq kq => XS.istore X105.here hx rfl (hb hby at_222) rfl (l' := #[.val (.long x0), .second, .val (.long x1), .second, .val (.long x2), .second, .val (.int x3), .val (.int (own_f0_1 x0 x1 x2 x3)), .val (.int (x3 &&& (3 : Int32))), .val (.int (own_f0_2 x0 x1 x2 x3)), .val (.int (own_f0_3 x0 x1 x2 x3)), .val (.ref a5), .val (.ref a17), .val (.int (1 : Int32))]) rfl kq) ?_
                      show own_Goes _ _ _ _ _ _ _ (T105.setTop (mkF m 224 #[.val (.long x0), .second, .val (.long x1), .second, .val (.long x2), .second, .val (.int x3), .val (.int (own_f0_1 x0 x1 x2 x3)), .val (.int (x3 &&& (3 : Int32))), .val (.int (own_f0_2 x0 x1 x2 x3)), .val (.int (own_f0_3 x0 x1 x2 x3)), .val (.ref a5), .val (.ref a17), .val (.int (1 : Int32))] []))
                      refine own_Goes.step (fun tq kq => XS.iload X105.here hx rfl (hb hby at_224) rfl kq) ?_
                      show own_Goes _ _ _ _ _ _ _ (T105.setTop (mkF m 226 #[.val (.long x0), .second, .val (.long x1), .second, .val (.long x2), .second, .val (.int x3), .val (.int (own_f0_1 x0 x1 x2 x3)), .val (.int (x3 &&& (3 : Int32))), .val (.int (own_f0_2 x0 x1 x2 x3)), .val (.int (own_f0_3 x0 x1 x2 x3)), .val (.ref a5), .val (.ref a17), .val (.int (1 : Int32))] [(.int (1 : Int32))]))
                      refine own_Goes.step (fun tq kq => XS.aload X105.here hx rfl (hb hby at_226) rfl rfl kq) ?_
                      show own_Goes _ _ _ _ _ _ _ (T105.setTop (mkF m 228 #[.val (.long x0), .second, .val (.long x1), .second, .val (.long x2), .second, .val (.int x3), .val (.int (own_f0_1 x0 x1 x2 x3)), .val (.int (x3 &&& (3 : Int32))), .val (.int (own_f0_2 x0 x1 x2 x3)), .val (.int (own_f0_3 x0 x1 x2 x3)), .val (.ref a5), .val (.ref a17), .val (.int (1 : Int32))] [(.ref a17), (.int (1 : Int32))]))
                      refine own_Goes.step (fun tq kq => XT.lloadN X105.here hx rfl (hb hby at_228) rfl kq) ?_
                      show own_Goes _ _ _ _ _ _ _ (T105.setTop (mkF m 229 #[.val (.long x0), .second, .val (.long x1), .second, .val (.long x2), .second, .val (.int x3), .val (.int (own_f0_1 x0 x1 x2 x3)), .val (.int (x3 &&& (3 : Int32))), .val (.int (own_f0_2 x0 x1 x2 x3)), .val (.int (own_f0_3 x0 x1 x2 x3)), .val (.ref a5), .val (.ref a17), .val (.int (1 : Int32))] [(.long x0), (.ref a17), (.int (1 : Int32))]))
                      obtain ⟨w107, T107, L107, q107, Y107, st107⟩ := own_virt X105 hx hZ e105 (own_W.exa B104) hown (own_at hw 64 rfl) (own_at hw 65 rfl) (own_at hw 67 rfl) (own_at hw 66 rfl) (own_at hw 21 rfl) (own_at hw 68 rfl) (by decide) (own_m8n l Z a0 hw [] a17 x0 kA sA dA pA (own_setJ (own_setJ (fun _ => 0) 0 x0) 1 x2) (own_setJ (own_setJ (fun _ => 0) 0 (own_f1_size ((8 : Int64) + (((XT.ushr x3 (4 : Int32)) &&& (7 : Int32)).toInt64)) (own_f0_4 x0 x1 x2 x3))) 1 (own_f1_size ((8 : Int64) + (((XT.ushr x3 (4 : Int32)) &&& (7 : Int32)).toInt64)) (own_f0_4 x0 x1 x2 x3))) (own_set (own_set (fun _ => 0) 0 (nar .boolean (own_f7 (own_f1_delete ((8 : Int64) + (((XT.ushr x3 (4 : Int32)) &&& (7 : Int32)).toInt64)) (own_f0_4 x0 x1 x2 x3))))) 1 (nar .boolean (own_f7 (own_f1_delete ((8 : Int64) + (((XT.ushr x3 (4 : Int32)) &&& (7 : Int32)).toInt64)) (own_f0_4 x0 x1 x2 x3))))) 1 fs99 mx99 am99 (-1 : Int32) 0 n0 T104.heap B104 (by decide)) (by decide) (W := 1) (by decide) (by decide) (by decide) (g := (mkF m 229 #[.val (.long x0), .second, .val (.long x1), .second, .val (.long x2), .second, .val (.int x3), .val (.int (own_f0_1 x0 x1 x2 x3)), .val (.int (x3 &&& (3 : Int32))), .val (.int (own_f0_2 x0 x1 x2 x3)), .val (.int (own_f0_3 x0 x1 x2 x3)), .val (.ref a5), .val (.ref a17), .val (.int (1 : Int32))] [(.long x0), (.ref a17), (.int (1 : Int32))])) rfl (by rw [hml]; rfl) (argsL := [(.long x0)]) (rest := [(.int (1 : Int32))]) (lenOf pd_8 rfl) rfl (by show 2 * 0 + _ ≤ _; exact Nat.le_of_eq rfl) (hb hby at_229)
                      obtain ⟨rfl, N107, K107, iA, S107, ixn107, lb107, hbl107, hiA107, B107, I107⟩ := q107
                      have Nn107 := Fr.app Nn104 N107
                      have IV107 := own_bld_inv (by decide) hbl107
                      refine own_Goes.step st107 ?_
                      show own_Goes _ _ _ _ _ _ _ (T107.setTop (mkF m 232 #[.val (.long x0), .second, .val (.long x1), .second, .val (.long x2), .second, .val (.int x3), .val (.int (own_f0_1 x0 x1 x2 x3)), .val (.int (x3 &&& (3 : Int32))), .val (.int (own_f0_2 x0 x1 x2 x3)), .val (.int (own_f0_3 x0 x1 x2 x3)), .val (.ref a5), .val (.ref a17), .val (.int (1 : Int32))] [(.int (own_bi (own_mem (own_setJ (own_setJ (fun _ => 0) 0 x0) 1 x2) 1 x0))), (.int (1 : Int32))]))
                      refine own_Goes.step (fun tq kq => XT.lloadN Y107.here hx rfl (hb hby at_232) rfl kq) ?_
                      show own_Goes _ _ _ _ _ _ _ (T107.setTop (mkF m 233 #[.val (.long x0), .second, .val (.long x1), .second, .val (.long x2), .second, .val (.int x3), .val (.int (own_f0_1 x0 x1 x2 x3)), .val (.int (x3 &&& (3 : Int32))), .val (.int (own_f0_2 x0 x1 x2 x3)), .val (.int (own_f0_3 x0 x1 x2 x3)), .val (.ref a5), .val (.ref a17), .val (.int (1 : Int32))] [(.long x0), (.int (own_bi (own_mem (own_setJ (own_setJ (fun _ => 0) 0 x0) 1 x2) 1 x0))), (.int (1 : Int32))]))
                      refine own_Goes.step (fun tq kq => XT.lloadN Y107.here hx rfl (hb hby at_233) rfl kq) ?_
                      show own_Goes _ _ _ _ _ _ _ (T107.setTop (mkF m 234 #[.val (.long x0), .second, .val (.long x1), .second, .val (.long x2), .second, .val (.int x3), .val (.int (own_f0_1 x0 x1 x2 x3)), .val (.int (x3 &&& (3 : Int32))), .val (.int (own_f0_2 x0 x1 x2 x3)), .val (.int (own_f0_3 x0 x1 x2 x3)), .val (.ref a5), .val (.ref a17), .val (.int (1 : Int32))] [(.long x0), (.long x0), (.int (own_bi (own_mem (own_setJ (own_setJ (fun _ => 0) 0 x0) 1 x2) 1 x0))), (.int (1 : Int32))]))
                      refine own_Goes.step (fun tq kq => XT.lloadN Y107.here hx rfl (hb hby at_234) rfl kq) ?_
                      show own_Goes _ _ _ _ _ _ _ (T107.setTop (mkF m 235 #[.val (.long x0), .second, .val (.long x1), .second, .val (.long x2), .second, .val (.int x3), .val (.int (own_f0_1 x0 x1 x2 x3)), .val (.int (x3 &&& (3 : Int32))), .val (.int (own_f0_2 x0 x1 x2 x3)), .val (.int (own_f0_3 x0 x1 x2 x3)), .val (.ref a5), .val (.ref a17), .val (.int (1 : Int32))] [(.long x1), (.long x0), (.long x0), (.int (own_bi (own_mem (own_setJ (own_setJ (fun _ => 0) 0 x0) 1 x2) 1 x0))), (.int (1 : Int32))]))
                      refine own_Goes.step (fun tq kq => XS.iload Y107.here hx rfl (hb hby at_235) rfl kq) ?_
                      show own_Goes _ _ _ _ _ _ _ (T107.setTop (mkF m 237 #[.val (.long x0), .second, .val (.long x1), .second, .val (.long x2), .second, .val (.int x3), .val (.int (own_f0_1 x0 x1 x2 x3)), .val (.int (x3 &&& (3 : Int32))), .val (.int (own_f0_2 x0 x1 x2 x3)), .val (.int (own_f0_3 x0 x1 x2 x3)), .val (.ref a5), .val (.ref a17), .val (.int (1 : Int32))] [(.int (own_f0_1 x0 x1 x2 x3)), (.long x1), (.long x0), (.long x0), (.int (own_bi (own_mem (own_setJ (own_setJ (fun _ => 0) 0 x0) 1 x2) 1 x0))), (.int (1 : Int32))]))
                      obtain ⟨w108, T108, L108, q108, Y108, st108⟩ := own_stat Y107 hx hZ rfl hown (own_at hw 99 rfl) (own_at hw 100 rfl) (own_at hw 101 rfl) (own_at hw 102 rfl) (by decide) (own_m15 l Z a0 hw [] x0 x0 x1 (own_f0_1 x0 x1 x2 x3) T107.heap ) (by decide) (W := 2) (by decide) (by decide) (by decide) (g := (mkF m 237 #[.val (.long x0), .second, .val (.long x1), .second, .val (.long x2), .second, .val (.int x3), .val (.int (own_f0_1 x0 x1 x2 x3)), .val (.int (x3 &&& (3 : Int32))), .val (.int (own_f0_2 x0 x1 x2 x3)), .val (.int (own_f0_3 x0 x1 x2 x3)), .val (.ref a5), .val (.ref a17), .val (.int (1 : Int32))] [(.int (own_f0_1 x0 x1 x2 x3)), (.long x1), (.long x0), (.long x0), (.int (own_bi (own_mem (own_setJ (own_setJ (fun _ => 0) 0 x0) 1 x2) 1 x0))), (.int (1 : Int32))])) rfl (by rw [hml]; rfl) (argsL := [(.long x0), (.long x0), (.long x1), (.int (own_f0_1 x0 x1 x2 x3))]) (rest := [(.int (own_bi (own_mem (own_setJ (own_setJ (fun _ => 0) 0 x0) 1 x2) 1 x0))), (.int (1 : Int32))]) (lenOf pd_15 rfl) rfl (by show 2 * 0 + _ ≤ _; exact Nat.le_of_eq rfl) (hb hby at_237)
                      obtain ⟨e108, X108⟩ := own_clean q108 Y108 rfl rfl
                      obtain ⟨rfl, -, -⟩ := q108
                      refine own_Goes.step st108 ?_
                      show own_Goes _ _ _ _ _ _ _ (T108.setTop (mkF m 240 #[.val (.long x0), .second, .val (.long x1), .second, .val (.long x2), .second, .val (.int x3), .val (.int (own_f0_1 x0 x1 x2 x3)), .val (.int (x3 &&& (3 : Int32))), .val (.int (own_f0_2 x0 x1 x2 x3)), .val (.int (own_f0_3 x0 x1 x2 x3)), .val (.ref a5), .val (.ref a17), .val (.int (1 : Int32))] [(.int (own_f15 x0 x0 x1 (own_f0_1 x0 x1 x2 x3))), (.int (own_bi (own_mem (own_setJ (own_setJ (fun _ => 0) 0 x0) 1 x2) 1 x0))), (.int (1 : Int32))]))
                      refine own_Goes.step (fun tq kq => XS.icmpNo X108.here hx rfl (hb hby at_240) rfl (XT.ii_ne_f (own_held1 rfl hc38 hc88)) kq) ?_
                      show own_Goes _ _ _ _ _ _ _ (T108.setTop (mkF m 243 #[.val (.long x0), .second, .val (.long x1), .second, .val (.long x2), .second, .val (.int x3), .val (.int (own_f0_1 x0 x1 x2 x3)), .val (.int (x3 &&& (3 : Int32))), .val (.int (own_f0_2 x0 x1 x2 x3)), .val (.int (own_f0_3 x0 x1 x2 x3)), .val (.ref a5), .val (.ref a17), .val (.int (1 : Int32))] [(.int (1 : Int32))]))
                      refine own_Goes.step (fun tq kq => XT.iconstV X108.here hx rfl (1 : Int32) (hb hby at_243) (by decide) kq) ?_
                      show own_Goes _ _ _ _ _ _ _ (T108.setTop (mkF m 244 #[.val (.long x0), .second, .val (.long x1), .second, .val (.long x2), .second, .val (.int x3), .val (.int (own_f0_1 x0 x1 x2 x3)), .val (.int (x3 &&& (3 : Int32))), .val (.int (own_f0_2 x0 x1 x2 x3)), .val (.int (own_f0_3 x0 x1 x2 x3)), .val (.ref a5), .val (.ref a17), .val (.int (1 : Int32))] [(.int (1 : Int32)), (.int (1 : Int32))]))
                      refine own_Goes.step (fun tq kq => XS.goto X108.here hx rfl (pc0 := 244) (pc' := 248) rfl (hb hby at_244) (by decide) (by decide) kq) ?_
                      show own_Goes _ _ _ _ _ _ _ (T108.setTop (mkF m 248 #[.val (.long x0), .second, .val (.long x1), .second, .val (.long x2), .second, .val (.int x3), .val (.int (own_f0_1 x0 x1 x2 x3)), .val (.int (x3 &&& (3 : Int32))), .val (.int (own_f0_2 x0 x1 x2 x3)), .val (.int (own_f0_3 x0 x1 x2 x3)), .val (.ref a5), .val (.ref a17), .val (.int (1 : Int32))] [(.int (1 : Int32)), (.int (1 : Int32))]))
                      refine own_Goes.step (fun tq kq => XS.iand X108.here hx rfl (hb hby at_248) rfl kq) ?_
                      show own_Goes _ _ _ _ _ _ _ (T108.setTop (mkF m 249 #[.val (.long x0), .second, .val (.long x1), .second, .val (.long x2), .second, .val (.int x3), .val (.int (own_f0_1 x0 x1 x2 x3)), .val (.int (x3 &&& (3 : Int32))), .val (.int (own_f0_2 x0 x1 x2 x3)), .val (.int (own_f0_3 x0 x1 x2 x3)), .val (.ref a5), .val (.ref a17), .val (.int (1 : Int32))] [(.int (1 : Int32))]))
                      refine own_Goes.step (fun tq kq => XS.istore X108.here hx rfl (hb hby at_249) rfl (l' := #[.val (.long x0), .second, .val (.long x1), .second, .val (.long x2), .second, .val (.int x3), .val (.int (own_f0_1 x0 x1 x2 x3)), .val (.int (x3 &&& (3 : Int32))), .val (.int (own_f0_2 x0 x1 x2 x3)), .val (.int (own_f0_3 x0 x1 x2 x3)), .val (.ref a5), .val (.ref a17), .val (.int (1 : Int32))]) rfl kq) ?_
                      show own_Goes _ _ _ _ _ _ _ (T108.setTop (mkF m 251 #[.val (.long x0), .second, .val (.long x1), .second, .val (.long x2), .second, .val (.int x3), .val (.int (own_f0_1 x0 x1 x2 x3)), .val (.int (x3 &&& (3 : Int32))), .val (.int (own_f0_2 x0 x1 x2 x3)), .val (.int (own_f0_3 x0 x1 x2 x3)), .val (.ref a5), .val (.ref a17), .val (.int (1 : Int32))] []))
                      refine own_Goes.step (fun tq kq => XS.iload X108.here hx rfl (hb hby at_251) rfl kq) ?_
                      show own_Goes _ _ _ _ _ _ _ (T108.setTop (mkF m 253 #[.val (.long x0), .second, .val (.long x1), .second, .val (.long x2), .second, .val (.int x3), .val (.int (own_f0_1 x0 x1 x2 x3)), .val (.int (x3 &&& (3 : Int32))), .val (.int (own_f0_2 x0 x1 x2 x3)), .val (.int (own_f0_3 x0 x1 x2 x3)), .val (.ref a5), .val (.ref a17), .val (.int (1 : Int32))] [(.int (1 : Int32))]))
                      refine own_Goes.step (fun tq kq => XS.aload X108.here hx rfl (hb hby at_253) rfl rfl kq) ?_
                      show own_Goes _ _ _ _ _ _ _ (T108.setTop (mkF m 255 #[.val (.long x0), .second, .val (.long x1), .second, .val (.long x2), .second, .val (.int x3), .val (.int (own_f0_1 x0 x1 x2 x3)), .val (.int (x3 &&& (3 : Int32))), .val (.int (own_f0_2 x0 x1 x2 x3)), .val (.int (own_f0_3 x0 x1 x2 x3)), .val (.ref a5), .val (.ref a17), .val (.int (1 : Int32))] [(.ref a17), (.int (1 : Int32))]))
                      refine own_Goes.step (fun tq kq => XT.lloadN X108.here hx rfl (hb hby at_255) rfl kq) ?_
                      show own_Goes _ _ _ _ _ _ _ (T108.setTop (mkF m 256 #[.val (.long x0), .second, .val (.long x1), .second, .val (.long x2), .second, .val (.int x3), .val (.int (own_f0_1 x0 x1 x2 x3)), .val (.int (x3 &&& (3 : Int32))), .val (.int (own_f0_2 x0 x1 x2 x3)), .val (.int (own_f0_3 x0 x1 x2 x3)), .val (.ref a5), .val (.ref a17), .val (.int (1 : Int32))] [(.long x1), (.ref a17), (.int (1 : Int32))]))
                      obtain ⟨t109, ht109, hm109⟩ := IV107.find (by decide) x1
                      have hr109 := IV107.says hm109
                      obtain ⟨w109, T109, L109, q109, Y109, st109⟩ := own_virt X108 hx hZ e108 (own_W.exa B107) hown (own_at hw 64 rfl) (own_at hw 65 rfl) (own_at hw 67 rfl) (own_at hw 66 rfl) (own_at hw 21 rfl) (own_at hw 68 rfl) (by decide) (own_m8s l Z a0 hw [] a17 x1 kA sA dA pA (own_setJ (own_setJ (fun _ => 0) 0 x0) 1 x2) (own_setJ (own_setJ (fun _ => 0) 0 (own_f1_size ((8 : Int64) + (((XT.ushr x3 (4 : Int32)) &&& (7 : Int32)).toInt64)) (own_f0_4 x0 x1 x2 x3))) 1 (own_f1_size ((8 : Int64) + (((XT.ushr x3 (4 : Int32)) &&& (7 : Int32)).toInt64)) (own_f0_4 x0 x1 x2 x3))) (own_set (own_set (fun _ => 0) 0 (nar .boolean (own_f7 (own_f1_delete ((8 : Int64) + (((XT.ushr x3 (4 : Int32)) &&& (7 : Int32)).toInt64)) (own_f0_4 x0 x1 x2 x3))))) 1 (nar .boolean (own_f7 (own_f1_delete ((8 : Int64) + (((XT.ushr x3 (4 : Int32)) &&& (7 : Int32)).toInt64)) (own_f0_4 x0 x1 x2 x3))))) 1 fs99 mx99 am99 lb107 (Int32.ofNat ixn107) iA S107 t109 (own_mem (own_setJ (own_setJ (fun _ => 0) 0 x0) 1 x2) 1 x1) n0 T107.heap B107 I107 (IV107.1.ok (by decide)) hm109 ht109 hr109) (by decide) (W := 1) (by decide) (by decide) (by decide) (g := (mkF m 256 #[.val (.long x0), .second, .val (.long x1), .second, .val (.long x2), .second, .val (.int x3), .val (.int (own_f0_1 x0 x1 x2 x3)), .val (.int (x3 &&& (3 : Int32))), .val (.int (own_f0_2 x0 x1 x2 x3)), .val (.int (own_f0_3 x0 x1 x2 x3)), .val (.ref a5), .val (.ref a17), .val (.int (1 : Int32))] [(.long x1), (.ref a17), (.int (1 : Int32))])) rfl (by rw [hml]; rfl) (argsL := [(.long x1)]) (rest := [(.int (1 : Int32))]) (lenOf pd_8 rfl) rfl (by show 2 * 0 + _ ≤ _; exact Nat.le_of_eq rfl) (hb hby at_256)
                      obtain ⟨e109, X109⟩ := own_clean q109 Y109 rfl rfl
                      obtain ⟨rfl, -, -⟩ := q109
                      refine own_Goes.step st109 ?_
                      show own_Goes _ _ _ _ _ _ _ (T109.setTop (mkF m 259 #[.val (.long x0), .second, .val (.long x1), .second, .val (.long x2), .second, .val (.int x3), .val (.int (own_f0_1 x0 x1 x2 x3)), .val (.int (x3 &&& (3 : Int32))), .val (.int (own_f0_2 x0 x1 x2 x3)), .val (.int (own_f0_3 x0 x1 x2 x3)), .val (.ref a5), .val (.ref a17), .val (.int (1 : Int32))] [(.int (own_bi (own_mem (own_setJ (own_setJ (fun _ => 0) 0 x0) 1 x2) 1 x1))), (.int (1 : Int32))]))
                      refine own_Goes.step (fun tq kq => XT.lloadN X109.here hx rfl (hb hby at_259) rfl kq) ?_
                      show own_Goes _ _ _ _ _ _ _ (T109.setTop (mkF m 260 #[.val (.long x0), .second, .val (.long x1), .second, .val (.long x2), .second, .val (.int x3), .val (.int (own_f0_1 x0 x1 x2 x3)), .val (.int (x3 &&& (3 : Int32))), .val (.int (own_f0_2 x0 x1 x2 x3)), .val (.int (own_f0_3 x0 x1 x2 x3)), .val (.ref a5), .val (.ref a17), .val (.int (1 : Int32))] [(.long x1), (.int (own_bi (own_mem (own_setJ (own_setJ (fun _ => 0) 0 x0) 1 x2) 1 x1))), (.int (1 : Int32))]))
                      refine own_Goes.step (fun tq kq => XT.lloadN X109.here hx rfl (hb hby at_260) rfl kq) ?_
                      show own_Goes _ _ _ _ _ _ _ (T109.setTop (mkF m 261 #[.val (.long x0), .second, .val (.long x1), .second, .val (.long x2), .second, .val (.int x3), .val (.int (own_f0_1 x0 x1 x2 x3)), .val (.int (x3 &&& (3 : Int32))), .val (.int (own_f0_2 x0 x1 x2 x3)), .val (.int (own_f0_3 x0 x1 x2 x3)), .val (.ref a5), .val (.ref a17), .val (.int (1 : Int32))] [(.long x0), (.long x1), (.int (own_bi (own_mem (own_setJ (own_setJ (fun _ => 0) 0 x0) 1 x2) 1 x1))), (.int (1 : Int32))]))
                      refine own_Goes.step (fun tq kq => XT.lloadN X109.here hx rfl (hb hby at_261) rfl kq) ?_
                      show own_Goes _ _ _ _ _ _ _ (T109.setTop (mkF m 262 #[.val (.long x0), .second, .val (.long x1), .second, .val (.long x2), .second, .val (.int x3), .val (.int (own_f0_1 x0 x1 x2 x3)), .val (.int (x3 &&& (3 : Int32))), .val (.int (own_f0_2 x0 x1 x2 x3)), .val (.int (own_f0_3 x0 x1 x2 x3)), .val (.ref a5), .val (.ref a17), .val (.int (1 : Int32))] [(.long x1), (.long x0), (.long x1), (.int (own_bi (own_mem (own_setJ (own_setJ (fun _ => 0) 0 x0) 1 x2) 1 x1))), (.int (1 : Int32))]))
                      refine own_Goes.step (fun tq kq => XS.iload X109.here hx rfl (hb hby at_262) rfl kq) ?_
                      show own_Goes _ _ _ _ _ _ _ (T109.setTop (mkF m 264 #[.val (.long x0), .second, .val (.long x1), .second, .val (.long x2), .second, .val (.int x3), .val (.int (own_f0_1 x0 x1 x2 x3)), .val (.int (x3 &&& (3 : Int32))), .val (.int (own_f0_2 x0 x1 x2 x3)), .val (.int (own_f0_3 x0 x1 x2 x3)), .val (.ref a5), .val (.ref a17), .val (.int (1 : Int32))] [(.int (own_f0_1 x0 x1 x2 x3)), (.long x1), (.long x0), (.long x1), (.int (own_bi (own_mem (own_setJ (own_setJ (fun _ => 0) 0 x0) 1 x2) 1 x1))), (.int (1 : Int32))]))
                      obtain ⟨w110, T110, L110, q110, Y110, st110⟩ := own_stat X109 hx hZ e109 hown (own_at hw 99 rfl) (own_at hw 100 rfl) (own_at hw 101 rfl) (own_at hw 102 rfl) (by decide) (own_m15 l Z a0 hw [] x1 x0 x1 (own_f0_1 x0 x1 x2 x3) T107.heap ) (by decide) (W := 2) (by decide) (by decide) (by decide) (g := (mkF m 264 #[.val (.long x0), .second, .val (.long x1), .second, .val (.long x2), .second, .val (.int x3), .val (.int (own_f0_1 x0 x1 x2 x3)), .val (.int (x3 &&& (3 : Int32))), .val (.int (own_f0_2 x0 x1 x2 x3)), .val (.int (own_f0_3 x0 x1 x2 x3)), .val (.ref a5), .val (.ref a17), .val (.int (1 : Int32))] [(.int (own_f0_1 x0 x1 x2 x3)), (.long x1), (.long x0), (.long x1), (.int (own_bi (own_mem (own_setJ (own_setJ (fun _ => 0) 0 x0) 1 x2) 1 x1))), (.int (1 : Int32))])) rfl (by rw [hml]; rfl) (argsL := [(.long x1), (.long x0), (.long x1), (.int (own_f0_1 x0 x1 x2 x3))]) (rest := [(.int (own_bi (own_mem (own_setJ (own_setJ (fun _ => 0) 0 x0) 1 x2) 1 x1))), (.int (1 : Int32))]) (lenOf pd_15 rfl) rfl (by show 2 * 0 + _ ≤ _; exact Nat.le_of_eq rfl) (hb hby at_264)
                      obtain ⟨e110, X110⟩ := own_clean q110 Y110 rfl rfl
                      obtain ⟨rfl, -, -⟩ := q110
                      refine own_Goes.step st110 ?_
                      show own_Goes _ _ _ _ _ _ _ (T110.setTop (mkF m 267 #[.val (.long x0), .second, .val (.long x1), .second, .val (.long x2), .second, .val (.int x3), .val (.int (own_f0_1 x0 x1 x2 x3)), .val (.int (x3 &&& (3 : Int32))), .val (.int (own_f0_2 x0 x1 x2 x3)), .val (.int (own_f0_3 x0 x1 x2 x3)), .val (.ref a5), .val (.ref a17), .val (.int (1 : Int32))] [(.int (own_f15 x1 x0 x1 (own_f0_1 x0 x1 x2 x3))), (.int (own_bi (own_mem (own_setJ (own_setJ (fun _ => 0) 0 x0) 1 x2) 1 x1))), (.int (1 : Int32))]))
                      refine own_Goes.step (fun tq kq => XS.icmpNo X110.here hx rfl (hb hby at_267) rfl (XT.ii_ne_f (own_held1 rfl hc38 hc88)) kq) ?_
                      show own_Goes _ _ _ _ _ _ _ (T110.setTop (mkF m 270 #[.val (.long x0), .second, .val (.long x1), .second, .val (.long x2), .second, .val (.int x3), .val (.int (own_f0_1 x0 x1 x2 x3)), .val (.int (x3 &&& (3 : Int32))), .val (.int (own_f0_2 x0 x1 x2 x3)), .val (.int (own_f0_3 x0 x1 x2 x3)), .val (.ref a5), .val (.ref a17), .val (.int (1 : Int32))] [(.int (1 : Int32))]))
                      refine own_Goes.step (fun tq kq => XT.iconstV X110.here hx rfl (1 : Int32) (hb hby at_270) (by decide) kq) ?_
                      show own_Goes _ _ _ _ _ _ _ (T110.setTop (mkF m 271 #[.val (.long x0), .second, .val (.long x1), .second, .val (.long x2), .second, .val (.int x3), .val (.int (own_f0_1 x0 x1 x2 x3)), .val (.int (x3 &&& (3 : Int32))), .val (.int (own_f0_2 x0 x1 x2 x3)), .val (.int (own_f0_3 x0 x1 x2 x3)), .val (.ref a5), .val (.ref a17), .val (.int (1 : Int32))] [(.int (1 : Int32)), (.int (1 : Int32))]))
                      refine own_Goes.step (fun tq kq => XS.goto X110.here hx rfl (pc0 := 271) (pc' := 275) rfl (hb hby at_271) (by decide) (by decide) kq) ?_
                      show own_Goes _ _ _ _ _ _ _ (T110.setTop (mkF m 275 #[.val (.long x0), .second, .val (.long x1), .second, .val (.long x2), .second, .val (.int x3), .val (.int (own_f0_1 x0 x1 x2 x3)), .val (.int (x3 &&& (3 : Int32))), .val (.int (own_f0_2 x0 x1 x2 x3)), .val (.int (own_f0_3 x0 x1 x2 x3)), .val (.ref a5), .val (.ref a17), .val (.int (1 : Int32))] [(.int (1 : Int32)), (.int (1 : Int32))]))
                      refine own_Goes.step (fun tq kq => XS.iand X110.here hx rfl (hb hby at_275) rfl kq) ?_
                      show own_Goes _ _ _ _ _ _ _ (T110.setTop (mkF m 276 #[.val (.long x0), .second, .val (.long x1), .second, .val (.long x2), .second, .val (.int x3), .val (.int (own_f0_1 x0 x1 x2 x3)), .val (.int (x3 &&& (3 : Int32))), .val (.int (own_f0_2 x0 x1 x2 x3)), .val (.int (own_f0_3 x0 x1 x2 x3)), .val (.ref a5), .val (.ref a17), .val (.int (1 : Int32))] [(.int (1 : Int32))]))
                      refine own_Goes.step (fun tq kq => XS.istore X110.here hx rfl (hb hby at_276) rfl (l' := #[.val (.long x0), .second, .val (.long x1), .second, .val (.long x2), .second, .val (.int x3), .val (.int (own_f0_1 x0 x1 x2 x3)), .val (.int (x3 &&& (3 : Int32))), .val (.int (own_f0_2 x0 x1 x2 x3)), .val (.int (own_f0_3 x0 x1 x2 x3)), .val (.ref a5), .val (.ref a17), .val (.int (1 : Int32))]) rfl kq) ?_
                      show own_Goes _ _ _ _ _ _ _ (T110.setTop (mkF m 278 #[.val (.long x0), .second, .val (.long x1), .second, .val (.long x2), .second, .val (.int x3), .val (.int (own_f0_1 x0 x1 x2 x3)), .val (.int (x3 &&& (3 : Int32))), .val (.int (own_f0_2 x0 x1 x2 x3)), .val (.int (own_f0_3 x0 x1 x2 x3)), .val (.ref a5), .val (.ref a17), .val (.int (1 : Int32))] []))
                      refine own_Goes.step (fun tq kq => XS.iload X110.here hx rfl (hb hby at_278) rfl kq) ?_
                      show own_Goes _ _ _ _ _ _ _ (T110.setTop (mkF m 280 #[.val (.long x0), .second, .val (.long x1), .second, .val (.long x2), .second, .val (.int x3), .val (.int (own_f0_1 x0 x1 x2 x3)), .val (.int (x3 &&& (3 : Int32))), .val (.int (own_f0_2 x0 x1 x2 x3)), .val (.int (own_f0_3 x0 x1 x2 x3)), .val (.ref a5), .val (.ref a17), .val (.int (1 : Int32))] [(.int (1 : Int32))]))
                      refine own_Goes.step (fun tq kq => XS.aload X110.here hx rfl (hb hby at_280) rfl rfl kq) ?_
                      show own_Goes _ _ _ _ _ _ _ (T110.setTop (mkF m 282 #[.val (.long x0), .second, .val (.long x1), .second, .val (.long x2), .second, .val (.int x3), .val (.int (own_f0_1 x0 x1 x2 x3)), .val (.int (x3 &&& (3 : Int32))), .val (.int (own_f0_2 x0 x1 x2 x3)), .val (.int (own_f0_3 x0 x1 x2 x3)), .val (.ref a5), .val (.ref a17), .val (.int (1 : Int32))] [(.ref a17), (.int (1 : Int32))]))
                      refine own_Goes.step (fun tq kq => XT.lload X110.here hx rfl (hb hby at_282) rfl kq) ?_
                      show own_Goes _ _ _ _ _ _ _ (T110.setTop (mkF m 284 #[.val (.long x0), .second, .val (.long x1), .second, .val (.long x2), .second, .val (.int x3), .val (.int (own_f0_1 x0 x1 x2 x3)), .val (.int (x3 &&& (3 : Int32))), .val (.int (own_f0_2 x0 x1 x2 x3)), .val (.int (own_f0_3 x0 x1 x2 x3)), .val (.ref a5), .val (.ref a17), .val (.int (1 : Int32))] [(.long x2), (.ref a17), (.int (1 : Int32))]))
                      obtain ⟨t111, ht111, hm111⟩ := IV107.find (by decide) x2
                      have hr111 := IV107.says hm111
                      obtain ⟨w111, T111, L111, q111, Y111, st111⟩ := own_virt X110 hx hZ e110 (own_W.exa B107) hown (own_at hw 64 rfl) (own_at hw 65 rfl) (own_at hw 67 rfl) (own_at hw 66 rfl) (own_at hw 21 rfl) (own_at hw 68 rfl) (by decide) (own_m8s l Z a0 hw [] a17 x2 kA sA dA pA (own_setJ (own_setJ (fun _ => 0) 0 x0) 1 x2) (own_setJ (own_setJ (fun _ => 0) 0 (own_f1_size ((8 : Int64) + (((XT.ushr x3 (4 : Int32)) &&& (7 : Int32)).toInt64)) (own_f0_4 x0 x1 x2 x3))) 1 (own_f1_size ((8 : Int64) + (((XT.ushr x3 (4 : Int32)) &&& (7 : Int32)).toInt64)) (own_f0_4 x0 x1 x2 x3))) (own_set (own_set (fun _ => 0) 0 (nar .boolean (own_f7 (own_f1_delete ((8 : Int64) + (((XT.ushr x3 (4 : Int32)) &&& (7 : Int32)).toInt64)) (own_f0_4 x0 x1 x2 x3))))) 1 (nar .boolean (own_f7 (own_f1_delete ((8 : Int64) + (((XT.ushr x3 (4 : Int32)) &&& (7 : Int32)).toInt64)) (own_f0_4 x0 x1 x2 x3))))) 1 fs99 mx99 am99 lb107 (Int32.ofNat ixn107) iA S107 t111 (own_mem (own_setJ (own_setJ (fun _ => 0) 0 x0) 1 x2) 1 x2) n0 T107.heap B107 I107 (IV107.1.ok (by decide)) hm111 ht111 hr111) (by decide) (W := 1) (by decide) (by decide) (by decide) (g := (mkF m 284 #[.val (.long x0), .second, .val (.long x1), .second, .val (.long x2), .second, .val (.int x3), .val (.int (own_f0_1 x0 x1 x2 x3)), .val (.int (x3 &&& (3 : Int32))), .val (.int (own_f0_2 x0 x1 x2 x3)), .val (.int (own_f0_3 x0 x1 x2 x3)), .val (.ref a5), .val (.ref a17), .val (.int (1 : Int32))] [(.long x2), (.ref a17), (.int (1 : Int32))])) rfl (by rw [hml]; rfl) (argsL := [(.long x2)]) (rest := [(.int (1 : Int32))]) (lenOf pd_8 rfl) rfl (by show 2 * 0 + _ ≤ _; exact Nat.le_of_eq rfl) (hb hby at_284)
                      obtain ⟨e111, X111⟩ := own_clean q111 Y111 rfl rfl
                      obtain ⟨rfl, -, -⟩ := q111
                      refine own_Goes.step st111 ?_
                      show own_Goes _ _ _ _ _ _ _ (T111.setTop (mkF m 287 #[.val (.long x0), .second, .val (.long x1), .second, .val (.long x2), .second, .val (.int x3), .val (.int (own_f0_1 x0 x1 x2 x3)), .val (.int (x3 &&& (3 : Int32))), .val (.int (own_f0_2 x0 x1 x2 x3)), .val (.int (own_f0_3 x0 x1 x2 x3)), .val (.ref a5), .val (.ref a17), .val (.int (1 : Int32))] [(.int (own_bi (own_mem (own_setJ (own_setJ (fun _ => 0) 0 x0) 1 x2) 1 x2))), (.int (1 : Int32))]))
                      refine own_Goes.step (fun tq kq => XT.lload X111.here hx rfl (hb hby at_287) rfl kq) ?_
                      show own_Goes _ _ _ _ _ _ _ (T111.setTop (mkF m 289 #[.val (.long x0), .second, .val (.long x1), .second, .val (.long x2), .second, .val (.int x3), .val (.int (own_f0_1 x0 x1 x2 x3)), .val (.int (x3 &&& (3 : Int32))), .val (.int (own_f0_2 x0 x1 x2 x3)), .val (.int (own_f0_3 x0 x1 x2 x3)), .val (.ref a5), .val (.ref a17), .val (.int (1 : Int32))] [(.long x2), (.int (own_bi (own_mem (own_setJ (own_setJ (fun _ => 0) 0 x0) 1 x2) 1 x2))), (.int (1 : Int32))]))
                      refine own_Goes.step (fun tq kq => XT.lloadN X111.here hx rfl (hb hby at_289) rfl kq) ?_
                      show own_Goes _ _ _ _ _ _ _ (T111.setTop (mkF m 290 #[.val (.long x0), .second, .val (.long x1), .second, .val (.long x2), .second, .val (.int x3), .val (.int (own_f0_1 x0 x1 x2 x3)), .val (.int (x3 &&& (3 : Int32))), .val (.int (own_f0_2 x0 x1 x2 x3)), .val (.int (own_f0_3 x0 x1 x2 x3)), .val (.ref a5), .val (.ref a17), .val (.int (1 : Int32))] [(.long x0), (.long x2), (.int (own_bi (own_mem (own_setJ (own_setJ (fun _ => 0) 0 x0) 1 x2) 1 x2))), (.int (1 : Int32))]))
                      refine own_Goes.step (fun tq kq => XT.lloadN X111.here hx rfl (hb hby at_290) rfl kq) ?_
                      show own_Goes _ _ _ _ _ _ _ (T111.setTop (mkF m 291 #[.val (.long x0), .second, .val (.long x1), .second, .val (.long x2), .second, .val (.int x3), .val (.int (own_f0_1 x0 x1 x2 x3)), .val (.int (x3 &&& (3 : Int32))), .val (.int (own_f0_2 x0 x1 x2 x3)), .val (.int (own_f0_3 x0 x1 x2 x3)), .val (.ref a5), .val (.ref a17), .val (.int (1 : Int32))] [(.long x1), (.long x0), (.long x2), (.int (own_bi (own_mem (own_setJ (own_setJ (fun _ => 0) 0 x0) 1 x2) 1 x2))), (.int (1 : Int32))]))
                      refine own_Goes.step (fun tq kq => XS.iload X111.here hx rfl (hb hby at_291) rfl kq) ?_
                      show own_Goes _ _ _ _ _ _ _ (T111.setTop (mkF m 293 #[.val (.long x0), .second, .val (.long x1), .second, .val (.long x2), .second, .val (.int x3), .val (.int (own_f0_1 x0 x1 x2 x3)), .val (.int (x3 &&& (3 : Int32))), .val (.int (own_f0_2 x0 x1 x2 x3)), .val (.int (own_f0_3 x0 x1 x2 x3)), .val (.ref a5), .val (.ref a17), .val (.int (1 : Int32))] [(.int (own_f0_1 x0 x1 x2 x3)), (.long x1), (.long x0), (.long x2), (.int (own_bi (own_mem (own_setJ (own_setJ (fun _ => 0) 0 x0) 1 x2) 1 x2))), (.int (1 : Int32))]))
                      obtain ⟨w112, T112, L112, q112, Y112, st112⟩ := own_stat X111 hx hZ e111 hown (own_at hw 99 rfl) (own_at hw 100 rfl) (own_at hw 101 rfl) (own_at hw 102 rfl) (by decide) (own_m15 l Z a0 hw [] x2 x0 x1 (own_f0_1 x0 x1 x2 x3) T107.heap ) (by decide) (W := 2) (by decide) (by decide) (by decide) (g := (mkF m 293 #[.val (.long x0), .second, .val (.long x1), .second, .val (.long x2), .second, .val (.int x3), .val (.int (own_f0_1 x0 x1 x2 x3)), .val (.int (x3 &&& (3 : Int32))), .val (.int (own_f0_2 x0 x1 x2 x3)), .val (.int (own_f0_3 x0 x1 x2 x3)), .val (.ref a5), .val (.ref a17), .val (.int (1 : Int32))] [(.int (own_f0_1 x0 x1 x2 x3)), (.long x1), (.long x0), (.long x2), (.int (own_bi (own_mem (own_setJ (own_setJ (fun _ => 0) 0 x0) 1 x2) 1 x2))), (.int (1 : Int32))])) rfl (by rw [hml]; rfl) (argsL := [(.long x2), (.long x0), (.long x1), (.int (own_f0_1 x0 x1 x2 x3))]) (rest := [(.int (own_bi (own_mem (own_setJ (own_setJ (fun _ => 0) 0 x0) 1 x2) 1 x2))), (.int (1 : Int32))]) (lenOf pd_15 rfl) rfl (by show 2 * 0 + _ ≤ _; exact Nat.le_of_eq rfl) (hb hby at_293)
                      obtain ⟨e112, X112⟩ := own_clean q112 Y112 rfl rfl
                      obtain ⟨rfl, -, -⟩ := q112
                      refine own_Goes.step st112 ?_
                      show own_Goes _ _ _ _ _ _ _ (T112.setTop (mkF m 296 #[.val (.long x0), .second, .val (.long x1), .second, .val (.long x2), .second, .val (.int x3), .val (.int (own_f0_1 x0 x1 x2 x3)), .val (.int (x3 &&& (3 : Int32))), .val (.int (own_f0_2 x0 x1 x2 x3)), .val (.int (own_f0_3 x0 x1 x2 x3)), .val (.ref a5), .val (.ref a17), .val (.int (1 : Int32))] [(.int (own_f15 x2 x0 x1 (own_f0_1 x0 x1 x2 x3))), (.int (own_bi (own_mem (own_setJ (own_setJ (fun _ => 0) 0 x0) 1 x2) 1 x2))), (.int (1 : Int32))]))
                      refine own_Goes.step (fun tq kq => XS.icmpNo X112.here hx rfl (hb hby at_296) rfl (XT.ii_ne_f (own_held1 rfl hc38 hc88)) kq) ?_
                      show own_Goes _ _ _ _ _ _ _ (T112.setTop (mkF m 299 #[.val (.long x0), .second, .val (.long x1), .second, .val (.long x2), .second, .val (.int x3), .val (.int (own_f0_1 x0 x1 x2 x3)), .val (.int (x3 &&& (3 : Int32))), .val (.int (own_f0_2 x0 x1 x2 x3)), .val (.int (own_f0_3 x0 x1 x2 x3)), .val (.ref a5), .val (.ref a17), .val (.int (1 : Int32))] [(.int (1 : Int32))]))
                      refine own_Goes.step (fun tq kq => XT.iconstV X112.here hx rfl (1 : Int32) (hb hby at_299) (by decide) kq) ?_
                      show own_Goes _ _ _ _ _ _ _ (T112.setTop (mkF m 300 #[.val (.long x0), .second, .val (.long x1), .second, .val (.long x2), .second, .val (.int x3), .val (.int (own_f0_1 x0 x1 x2 x3)), .val (.int (x3 &&& (3 : Int32))), .val (.int (own_f0_2 x0 x1 x2 x3)), .val (.int (own_f0_3 x0 x1 x2 x3)), .val (.ref a5), .val (.ref a17), .val (.int (1 : Int32))] [(.int (1 : Int32)), (.int (1 : Int32))]))
                      refine own_Goes.step (fun tq kq => XS.goto X112.here hx rfl (pc0 := 300) (pc' := 304) rfl (hb hby at_300) (by decide) (by decide) kq) ?_
                      show own_Goes _ _ _ _ _ _ _ (T112.setTop (mkF m 304 #[.val (.long x0), .second, .val (.long x1), .second, .val (.long x2), .second, .val (.int x3), .val (.int (own_f0_1 x0 x1 x2 x3)), .val (.int (x3 &&& (3 : Int32))), .val (.int (own_f0_2 x0 x1 x2 x3)), .val (.int (own_f0_3 x0 x1 x2 x3)), .val (.ref a5), .val (.ref a17), .val (.int (1 : Int32))] [(.int (1 : Int32)), (.int (1 : Int32))]))
                      refine own_Goes.step (fun tq kq => XS.iand X112.here hx rfl (hb hby at_304) rfl kq) ?_
                      show own_Goes _ _ _ _ _ _ _ (T112.setTop (mkF m 305 #[.val (.long x0), .second, .val (.long x1), .second, .val (.long x2), .second, .val (.int x3), .val (.int (own_f0_1 x0 x1 x2 x3)), .val (.int (x3 &&& (3 : Int32))), .val (.int (own_f0_2 x0 x1 x2 x3)), .val (.int (own_f0_3 x0 x1 x2 x3)), .val (.ref a5), .val (.ref a17), .val (.int (1 : Int32))] [(.int (1 : Int32))]))
                      refine own_Goes.step (fun tq kq => XS.istore X112.here hx rfl (hb hby at_305) rfl (l' := #[.val (.long x0), .second, .val (.long x1), .second, .val (.long x2), .second, .val (.int x3), .val (.int (own_f0_1 x0 x1 x2 x3)), .val (.int (x3 &&& (3 : Int32))), .val (.int (own_f0_2 x0 x1 x2 x3)), .val (.int (own_f0_3 x0 x1 x2 x3)), .val (.ref a5), .val (.ref a17), .val (.int (1 : Int32))]) rfl kq) ?_
                      show own_Goes _ _ _ _ _ _ _ (T112.setTop (mkF m 307 #[.val (.long x0), .second, .val (.long x1), .second, .val (.long x2), .second, .val (.int x3), .val (.int (own_f0_1 x0 x1 x2 x3)), .val (.int (x3 &&& (3 : Int32))), .val (.int (own_f0_2 x0 x1 x2 x3)), .val (.int (own_f0_3 x0 x1 x2 x3)), .val (.ref a5), .val (.ref a17), .val (.int (1 : Int32))] []))
                      refine own_Goes.step (fun tq kq => XS.iload X112.here hx rfl (hb hby at_307) rfl kq) ?_
                      show own_Goes _ _ _ _ _ _ _ (T112.setTop (mkF m 309 #[.val (.long x0), .second, .val (.long x1), .second, .val (.long x2), .second, .val (.int x3), .val (.int (own_f0_1 x0 x1 x2 x3)), .val (.int (x3 &&& (3 : Int32))), .val (.int (own_f0_2 x0 x1 x2 x3)), .val (.int (own_f0_3 x0 x1 x2 x3)), .val (.ref a5), .val (.ref a17), .val (.int (1 : Int32))] [(.int (1 : Int32))]))
                      exact own_endN X112 hx Bd.notSynchronized (t := .boolean) Bd.returns (by simp) (hb hby at_309) ⟨rfl, Nn107⟩ (by decide) (by decide)
                    by_cases hc106 : (own_f0_1 x0 x1 x2 x3) = (0 : Int32)
                    · refine own_Goes.step (fun tq kq => XS.ifNo X105.here hx rfl (hb hby at_205) rfl (XT.i0_ne_f hc106) kq) ?_
                      show own_Goes _ _ _ _ _ _ _ (T105.setTop (mkF m 208 #[.val (.long x0), .second, .val (.long x1), .second, .val (.long x2), .second, .val (.int x3), .val (.int (own_f0_1 x0 x1 x2 x3)), .val (.int (x3 &&& (3 : Int32))), .val (.int (own_f0_2 x0 x1 x2 x3)), .val (.int (own_f0_3 x0 x1 x2 x3)), .val (.ref a5), .val (.ref a17), .val (.int (1 : Int32))] [(.int (own_f14 (Int32.ofNat 1))), (.int (1 : Int32))]))
                      refine own_Goes.step (fun tq kq => XT.iconstV X105.here hx rfl (1 : Int32) (hb hby at_208) (by decide) kq) ?_
                      show own_Goes _ _ _ _ _ _ _ (T105.setTop (mkF m 209 #[.val (.long x0), .second, .val (.long x1), .second, .val (.long x2), .second, .val (.int x3), .val (.int (own_f0_1 x0 x1 x2 x3)), .val (.int (x3 &&& (3 : Int32))), .val (.int (own_f0_2 x0 x1 x2 x3)), .val (.int (own_f0_3 x0 x1 x2 x3)), .val (.ref a5), .val (.ref a17), .val (.int (1 : Int32))] [(.int (1 : Int32)), (.int (own_f14 (Int32.ofNat 1))), (.int (1 : Int32))]))
                      refine own_Goes.step (fun tq kq => XS.goto X105.here hx rfl (pc0 := 209) (pc' := 213) rfl (hb hby at_209) (by decide) (by decide) kq) ?_
                      show own_Goes _ _ _ _ _ _ _ (T105.setTop (mkF m 213 #[.val (.long x0), .second, .val (.long x1), .second, .val (.long x2), .second, .val (.int x3), .val (.int (own_f0_1 x0 x1 x2 x3)), .val (.int (x3 &&& (3 : Int32))), .val (.int (own_f0_2 x0 x1 x2 x3)), .val (.int (own_f0_3 x0 x1 x2 x3)), .val (.ref a5), .val (.ref a17), .val (.int (1 : Int32))] [(.int (1 : Int32)), (.int (own_f14 (Int32.ofNat 1))), (.int (1 : Int32))]))
                      rw [show (own_f0_5 x0 x1 x2 x3) = (1 : Int32) from by simp only [own_f0_5, if_pos hc106]] at J113
                      exact J113
                    · refine own_Goes.step (fun tq kq => XS.ifYes X105.here hx rfl (pc0 := 205) (pc' := 212) rfl (hb hby at_205) rfl (XT.i0_ne_t hc106) (by decide) (by decide) kq) ?_
                      show own_Goes _ _ _ _ _ _ _ (T105.setTop (mkF m 212 #[.val (.long x0), .second, .val (.long x1), .second, .val (.long x2), .second, .val (.int x3), .val (.int (own_f0_1 x0 x1 x2 x3)), .val (.int (x3 &&& (3 : Int32))), .val (.int (own_f0_2 x0 x1 x2 x3)), .val (.int (own_f0_3 x0 x1 x2 x3)), .val (.ref a5), .val (.ref a17), .val (.int (1 : Int32))] [(.int (own_f14 (Int32.ofNat 1))), (.int (1 : Int32))]))
                      refine own_Goes.step (fun tq kq => XT.iconstV X105.here hx rfl (0 : Int32) (hb hby at_212) (by decide) kq) ?_
                      show own_Goes _ _ _ _ _ _ _ (T105.setTop (mkF m 213 #[.val (.long x0), .second, .val (.long x1), .second, .val (.long x2), .second, .val (.int x3), .val (.int (own_f0_1 x0 x1 x2 x3)), .val (.int (x3 &&& (3 : Int32))), .val (.int (own_f0_2 x0 x1 x2 x3)), .val (.int (own_f0_3 x0 x1 x2 x3)), .val (.ref a5), .val (.ref a17), .val (.int (1 : Int32))] [(.int (0 : Int32)), (.int (own_f14 (Int32.ofNat 1))), (.int (1 : Int32))]))
                      rw [show (own_f0_5 x0 x1 x2 x3) = (0 : Int32) from by simp only [own_f0_5, if_neg hc106]] at J113
                      exact J113
                  · refine own_Goes.step (fun tq kq => XS.ifNo Y99.here hx rfl (hb hby at_176) rfl (XT.i0_eq_f hc103) kq) ?_
                    show own_Goes _ _ _ _ _ _ _ (T99.setTop (mkF m 179 #[.val (.long x0), .second, .val (.long x1), .second, .val (.long x2), .second, .val (.int x3), .val (.int (own_f0_1 x0 x1 x2 x3)), .val (.int (x3 &&& (3 : Int32))), .val (.int (own_f0_2 x0 x1 x2 x3)), .val (.int (own_f0_3 x0 x1 x2 x3)), .val (.ref a5), .val (.ref a17), .val (.int (1 : Int32))] []))
                    refine own_Goes.step (fun tq kq => XS.iload Y99.here hx rfl (hb hby at_179) rfl kq) ?_
                    show own_Goes _ _ _ _ _ _ _ (T99.setTop (mkF m 181 #[.val (.long x0), .second, .val (.long x1), .second, .val (.long x2), .second, .val (.int x3), .val (.int (own_f0_1 x0 x1 x2 x3)), .val (.int (x3 &&& (3 : Int32))), .val (.int (own_f0_2 x0 x1 x2 x3)), .val (.int (own_f0_3 x0 x1 x2 x3)), .val (.ref a5), .val (.ref a17), .val (.int (1 : Int32))] [(.int (1 : Int32))]))
                    refine own_Goes.step (fun tq kq => XS.aload Y99.here hx rfl (hb hby at_181) rfl rfl kq) ?_
                    show own_Goes _ _ _ _ _ _ _ (T99.setTop (mkF m 183 #[.val (.long x0), .second, .val (.long x1), .second, .val (.long x2), .second, .val (.int x3), .val (.int (own_f0_1 x0 x1 x2 x3)), .val (.int (x3 &&& (3 : Int32))), .val (.int (own_f0_2 x0 x1 x2 x3)), .val (.int (own_f0_3 x0 x1 x2 x3)), .val (.ref a5), .val (.ref a17), .val (.int (1 : Int32))] [(.ref a17), (.int (1 : Int32))]))
                    refine own_Goes.step (fun tq kq => XT.lload Y99.here hx rfl (hb hby at_183) rfl kq) ?_
                    show own_Goes _ _ _ _ _ _ _ (T99.setTop (mkF m 185 #[.val (.long x0), .second, .val (.long x1), .second, .val (.long x2), .second, .val (.int x3), .val (.int (own_f0_1 x0 x1 x2 x3)), .val (.int (x3 &&& (3 : Int32))), .val (.int (own_f0_2 x0 x1 x2 x3)), .val (.int (own_f0_3 x0 x1 x2 x3)), .val (.ref a5), .val (.ref a17), .val (.int (1 : Int32))] [(.long x2), (.ref a17), (.int (1 : Int32))]))
                    obtain ⟨w114, T114, L114, q114, Y114, st114⟩ := own_virt Y99 hx hZ rfl (own_W.exa B99) hown (own_at hw 64 rfl) (own_at hw 65 rfl) (own_at hw 67 rfl) (own_at hw 66 rfl) (own_at hw 21 rfl) (own_at hw 68 rfl) (by decide) (own_m8n l Z a0 hw [] a17 x2 kA sA dA pA (own_setJ (own_setJ (fun _ => 0) 0 x0) 1 x2) (own_setJ (own_setJ (fun _ => 0) 0 (own_f1_size ((8 : Int64) + (((XT.ushr x3 (4 : Int32)) &&& (7 : Int32)).toInt64)) (own_f0_4 x0 x1 x2 x3))) 1 (own_f1_size ((8 : Int64) + (((XT.ushr x3 (4 : Int32)) &&& (7 : Int32)).toInt64)) (own_f0_4 x0 x1 x2 x3))) (own_set (own_set (fun _ => 0) 0 (nar .boolean (own_f7 (own_f1_delete ((8 : Int64) + (((XT.ushr x3 (4 : Int32)) &&& (7 : Int32)).toInt64)) (own_f0_4 x0 x1 x2 x3))))) 1 (nar .boolean (own_f7 (own_f1_delete ((8 : Int64) + (((XT.ushr x3 (4 : Int32)) &&& (7 : Int32)).toInt64)) (own_f0_4 x0 x1 x2 x3))))) 2 fs99 mx99 am99 (-1 : Int32) 0 n0 T99.heap B99 (by decide)) (by decide) (W := 1) (by decide) (by decide) (by decide) (g := (mkF m 185 #[.val (.long x0), .second, .val (.long x1), .second, .val (.long x2), .second, .val (.int x3), .val (.int (own_f0_1 x0 x1 x2 x3)), .val (.int (x3 &&& (3 : Int32))), .val (.int (own_f0_2 x0 x1 x2 x3)), .val (.int (own_f0_3 x0 x1 x2 x3)), .val (.ref a5), .val (.ref a17), .val (.int (1 : Int32))] [(.long x2), (.ref a17), (.int (1 : Int32))])) rfl (by rw [hml]; rfl) (argsL := [(.long x2)]) (rest := [(.int (1 : Int32))]) (lenOf pd_8 rfl) rfl (by show 2 * 0 + _ ≤ _; exact Nat.le_of_eq rfl) (hb hby at_185)
                    obtain ⟨rfl, N114, K114, iA, S114, ixn114, lb114, hbl114, hiA114, B114, I114⟩ := q114
                    have Nn114 := Fr.app Nn99 N114
                    have IV114 := own_bld_inv (by decide) hbl114
                    have en_iA : a5 ≠ iA := Nat.ne_of_lt (Nat.lt_of_lt_of_le f100.lt hiA114)
                    have f115 := f100.keep K114
                    have f116 := f101.keep K114 (own_nin en_w)
                    have f117 := f102.keep K114 (own_nin en_w)
                    rw [show own_bi (own_mem (own_setJ (own_setJ (fun _ => 0) 0 x0) 1 x2) 2 x2) = (1 : Int32) from own_hit rfl] at st114
                    refine own_Goes.step st114 ?_
                    show own_Goes _ _ _ _ _ _ _ (T114.setTop (mkF m 188 #[.val (.long x0), .second, .val (.long x1), .second, .val (.long x2), .second, .val (.int x3), .val (.int (own_f0_1 x0 x1 x2 x3)), .val (.int (x3 &&& (3 : Int32))), .val (.int (own_f0_2 x0 x1 x2 x3)), .val (.int (own_f0_3 x0 x1 x2 x3)), .val (.ref a5), .val (.ref a17), .val (.int (1 : Int32))] [(.int (1 : Int32)), (.int (1 : Int32))]))
                    refine own_Goes.step (fun tq kq => XS.iand Y114.here hx rfl (hb hby at_188) rfl kq) ?_
                    show own_Goes _ _ _ _ _ _ _ (T114.setTop (mkF m 189 #[.val (.long x0), .second, .val (.long x1), .second, .val (.long x2), .second, .val (.int x3), .val (.int (own_f0_1 x0 x1 x2 x3)), .val (.int (x3 &&& (3 : Int32))), .val (.int (own_f0_2 x0 x1 x2 x3)), .val (.int (own_f0_3 x0 x1 x2 x3)), .val (.ref a5), .val (.ref a17), .val (.int (1 : Int32))] [(.int (1 : Int32))]))
                    refine own_Goes.step (fun tq kq => XS.istore Y114.here hx rfl (hb hby at_189) rfl (l' := #[.val (.long x0), .second, .val (.long x1), .second, .val (.long x2), .second, .val (.int x3), .val (.int (own_f0_1 x0 x1 x2 x3)), .val (.int (x3 &&& (3 : Int32))), .val (.int (own_f0_2 x0 x1 x2 x3)), .val (.int (own_f0_3 x0 x1 x2 x3)), .val (.ref a5), .val (.ref a17), .val (.int (1 : Int32))]) rfl kq) ?_
                    show own_Goes _ _ _ _ _ _ _ (T114.setTop (mkF m 191 #[.val (.long x0), .second, .val (.long x1), .second, .val (.long x2), .second, .val (.int x3), .val (.int (own_f0_1 x0 x1 x2 x3)), .val (.int (x3 &&& (3 : Int32))), .val (.int (own_f0_2 x0 x1 x2 x3)), .val (.int (own_f0_3 x0 x1 x2 x3)), .val (.ref a5), .val (.ref a17), .val (.int (1 : Int32))] []))
                    obtain ⟨Sp, ixp, lp, tp, hbp, htp, hmp, hcase⟩ := own_bld_last (by decide) hbl114
                    have IVp := own_bld_inv (by decide) hbp
                    rcases hcase with ⟨hq, eS, eI, eL⟩ | ⟨hq, eS, eI, eL⟩
                    · subst eS eI eL
                      have Bp := B114
                      have Ip := I114
                      refine own_Goes.step (fun tq kq => XS.aload Y114.here hx rfl (hb hby at_191) rfl rfl kq) ?_
                      show own_Goes _ _ _ _ _ _ _ (T114.setTop (mkF m 193 #[.val (.long x0), .second, .val (.long x1), .second, .val (.long x2), .second, .val (.int x3), .val (.int (own_f0_1 x0 x1 x2 x3)), .val (.int (x3 &&& (3 : Int32))), .val (.int (own_f0_2 x0 x1 x2 x3)), .val (.int (own_f0_3 x0 x1 x2 x3)), .val (.ref a5), .val (.ref a17), .val (.int (1 : Int32))] [(.ref a17)]))
                      obtain ⟨w118, T118, L118, q118, Y118, st118⟩ := own_virt Y114 hx hZ rfl (own_W.exa Bp) hown (own_at hw 89 rfl) (own_at hw 90 rfl) (own_at hw 92 rfl) (own_at hw 91 rfl) (own_at hw 21 rfl) (own_at hw 93 rfl) (by decide) (own_m13a l Z a0 hw [] a17 kA sA dA pA (own_setJ (own_setJ (fun _ => 0) 0 x0) 1 x2) (own_setJ (own_setJ (fun _ => 0) 0 (own_f1_size ((8 : Int64) + (((XT.ushr x3 (4 : Int32)) &&& (7 : Int32)).toInt64)) (own_f0_4 x0 x1 x2 x3))) 1 (own_f1_size ((8 : Int64) + (((XT.ushr x3 (4 : Int32)) &&& (7 : Int32)).toInt64)) (own_f0_4 x0 x1 x2 x3))) (own_set (own_set (fun _ => 0) 0 (nar .boolean (own_f7 (own_f1_delete ((8 : Int64) + (((XT.ushr x3 (4 : Int32)) &&& (7 : Int32)).toInt64)) (own_f0_4 x0 x1 x2 x3))))) 1 (nar .boolean (own_f7 (own_f1_delete ((8 : Int64) + (((XT.ushr x3 (4 : Int32)) &&& (7 : Int32)).toInt64)) (own_f0_4 x0 x1 x2 x3))))) 1 fs99 mx99 am99 (Int32.ofNat (ixp + 1)) iA (own_set Sp tp (Int32.ofNat (1 + 1))) tp n0 T114.heap Bp Ip htp) (by decide) (W := 0) (by decide) (by decide) (by decide) (g := (mkF m 193 #[.val (.long x0), .second, .val (.long x1), .second, .val (.long x2), .second, .val (.int x3), .val (.int (own_f0_1 x0 x1 x2 x3)), .val (.int (x3 &&& (3 : Int32))), .val (.int (own_f0_2 x0 x1 x2 x3)), .val (.int (own_f0_3 x0 x1 x2 x3)), .val (.ref a5), .val (.ref a17), .val (.int (1 : Int32))] [(.ref a17)])) rfl (by rw [hml]; rfl) (argsL := []) (rest := []) (lenOf pd_13 rfl) rfl (by show 2 * 0 + _ ≤ _; exact Nat.le_of_eq rfl) (hb hby at_193)
                      obtain ⟨rfl, N118, B118, I118⟩ := q118
                      rw [own_setset hq] at I118
                      have Nn118 := Fr.app Nn114 N118
                      refine own_Goes.step st118 ?_
                      show own_Goes _ _ _ _ _ _ _ (T118.setTop (mkF m 196 #[.val (.long x0), .second, .val (.long x1), .second, .val (.long x2), .second, .val (.int x3), .val (.int (own_f0_1 x0 x1 x2 x3)), .val (.int (x3 &&& (3 : Int32))), .val (.int (own_f0_2 x0 x1 x2 x3)), .val (.int (own_f0_3 x0 x1 x2 x3)), .val (.ref a5), .val (.ref a17), .val (.int (1 : Int32))] []))
                      exact JS T118 _ _ Y118 rfl Nn118 _ _ _ _ _ _ _ _ _ _ B118 I118 IVp
                    · subst eS eI eL
                      have Bp := B114
                      have Ip := I114
                      refine own_Goes.step (fun tq kq => XS.aload Y114.here hx rfl (hb hby at_191) rfl rfl kq) ?_
                      show own_Goes _ _ _ _ _ _ _ (T114.setTop (mkF m 193 #[.val (.long x0), .second, .val (.long x1), .second, .val (.long x2), .second, .val (.int x3), .val (.int (own_f0_1 x0 x1 x2 x3)), .val (.int (x3 &&& (3 : Int32))), .val (.int (own_f0_2 x0 x1 x2 x3)), .val (.int (own_f0_3 x0 x1 x2 x3)), .val (.ref a5), .val (.ref a17), .val (.int (1 : Int32))] [(.ref a17)]))
                      obtain ⟨w119, T119, L119, q119, Y119, st119⟩ := own_virt Y114 hx hZ rfl (own_W.exa Bp) hown (own_at hw 89 rfl) (own_at hw 90 rfl) (own_at hw 92 rfl) (own_at hw 91 rfl) (own_at hw 21 rfl) (own_at hw 93 rfl) (by decide) (own_m13m l Z a0 hw [] a17 kA sA dA pA (own_setJ (own_setJ (fun _ => 0) 0 x0) 1 x2) (own_setJ (own_setJ (fun _ => 0) 0 (own_f1_size ((8 : Int64) + (((XT.ushr x3 (4 : Int32)) &&& (7 : Int32)).toInt64)) (own_f0_4 x0 x1 x2 x3))) 1 (own_f1_size ((8 : Int64) + (((XT.ushr x3 (4 : Int32)) &&& (7 : Int32)).toInt64)) (own_f0_4 x0 x1 x2 x3))) (own_set (own_set (fun _ => 0) 0 (nar .boolean (own_f7 (own_f1_delete ((8 : Int64) + (((XT.ushr x3 (4 : Int32)) &&& (7 : Int32)).toInt64)) (own_f0_4 x0 x1 x2 x3))))) 1 (nar .boolean (own_f7 (own_f1_delete ((8 : Int64) + (((XT.ushr x3 (4 : Int32)) &&& (7 : Int32)).toInt64)) (own_f0_4 x0 x1 x2 x3))))) 1 fs99 mx99 am99 (Int32.ofNat ixn114) iA S114 n0 T114.heap Bp Ip) (by decide) (W := 0) (by decide) (by decide) (by decide) (g := (mkF m 193 #[.val (.long x0), .second, .val (.long x1), .second, .val (.long x2), .second, .val (.int x3), .val (.int (own_f0_1 x0 x1 x2 x3)), .val (.int (x3 &&& (3 : Int32))), .val (.int (own_f0_2 x0 x1 x2 x3)), .val (.int (own_f0_3 x0 x1 x2 x3)), .val (.ref a5), .val (.ref a17), .val (.int (1 : Int32))] [(.ref a17)])) rfl (by rw [hml]; rfl) (argsL := []) (rest := []) (lenOf pd_13 rfl) rfl (by show 2 * 0 + _ ≤ _; exact Nat.le_of_eq rfl) (hb hby at_193)
                      obtain ⟨rfl, N119, B119, I119⟩ := q119
                      have Nn119 := Fr.app Nn114 N119
                      refine own_Goes.step st119 ?_
                      show own_Goes _ _ _ _ _ _ _ (T119.setTop (mkF m 196 #[.val (.long x0), .second, .val (.long x1), .second, .val (.long x2), .second, .val (.int x3), .val (.int (own_f0_1 x0 x1 x2 x3)), .val (.int (x3 &&& (3 : Int32))), .val (.int (own_f0_2 x0 x1 x2 x3)), .val (.int (own_f0_3 x0 x1 x2 x3)), .val (.ref a5), .val (.ref a17), .val (.int (1 : Int32))] []))
                      exact JS T119 _ _ Y119 rfl Nn119 _ _ _ _ _ _ _ _ _ _ B119 I119 IVp
                · refine own_Goes.step (fun tq kq => XS.ifNo Y84.here hx rfl (hb hby at_133) rfl (XT.i0_eq_f hc98) kq) ?_
                  show own_Goes _ _ _ _ _ _ _ (T84.setTop (mkF m 136 #[.val (.long x0), .second, .val (.long x1), .second, .val (.long x2), .second, .val (.int x3), .val (.int (own_f0_1 x0 x1 x2 x3)), .val (.int (x3 &&& (3 : Int32))), .val (.int (own_f0_2 x0 x1 x2 x3)), .val (.int (own_f0_3 x0 x1 x2 x3)), .val (.ref a5), .val (.ref a17), .val (.int (1 : Int32))] []))
                  refine own_Goes.step (fun tq kq => XS.iload Y84.here hx rfl (hb hby at_136) rfl kq) ?_
                  show own_Goes _ _ _ _ _ _ _ (T84.setTop (mkF m 138 #[.val (.long x0), .second, .val (.long x1), .second, .val (.long x2), .second, .val (.int x3), .val (.int (own_f0_1 x0 x1 x2 x3)), .val (.int (x3 &&& (3 : Int32))), .val (.int (own_f0_2 x0 x1 x2 x3)), .val (.int (own_f0_3 x0 x1 x2 x3)), .val (.ref a5), .val (.ref a17), .val (.int (1 : Int32))] [(.int (1 : Int32))]))
                  refine own_Goes.step (fun tq kq => XS.aload Y84.here hx rfl (hb hby at_138) rfl rfl kq) ?_
                  show own_Goes _ _ _ _ _ _ _ (T84.setTop (mkF m 140 #[.val (.long x0), .second, .val (.long x1), .second, .val (.long x2), .second, .val (.int x3), .val (.int (own_f0_1 x0 x1 x2 x3)), .val (.int (x3 &&& (3 : Int32))), .val (.int (own_f0_2 x0 x1 x2 x3)), .val (.int (own_f0_3 x0 x1 x2 x3)), .val (.ref a5), .val (.ref a17), .val (.int (1 : Int32))] [(.ref a17), (.int (1 : Int32))]))
                  refine own_Goes.step (fun tq kq => XT.lload Y84.here hx rfl (hb hby at_140) rfl kq) ?_
                  show own_Goes _ _ _ _ _ _ _ (T84.setTop (mkF m 142 #[.val (.long x0), .second, .val (.long x1), .second, .val (.long x2), .second, .val (.int x3), .val (.int (own_f0_1 x0 x1 x2 x3)), .val (.int (x3 &&& (3 : Int32))), .val (.int (own_f0_2 x0 x1 x2 x3)), .val (.int (own_f0_3 x0 x1 x2 x3)), .val (.ref a5), .val (.ref a17), .val (.int (1 : Int32))] [(.long x2), (.ref a17), (.int (1 : Int32))]))
                  obtain ⟨w120, T120, L120, q120, Y120, st120⟩ := own_virt Y84 hx hZ rfl (own_W.exa B84) hown (own_at hw 64 rfl) (own_at hw 65 rfl) (own_at hw 67 rfl) (own_at hw 66 rfl) (own_at hw 21 rfl) (own_at hw 68 rfl) (by decide) (own_m8n l Z a0 hw [] a17 x2 kA sA dA pA (own_setJ (fun _ => 0) 0 x0) (own_setJ (fun _ => 0) 0 (own_f1_size ((8 : Int64) + (((XT.ushr x3 (4 : Int32)) &&& (7 : Int32)).toInt64)) (own_f0_4 x0 x1 x2 x3))) (own_set (fun _ => 0) 0 (nar .boolean (own_f7 (own_f1_delete ((8 : Int64) + (((XT.ushr x3 (4 : Int32)) &&& (7 : Int32)).toInt64)) (own_f0_4 x0 x1 x2 x3))))) 1 fs84 mx84 am84 (-1 : Int32) 0 n0 T84.heap B84 (by decide)) (by decide) (W := 1) (by decide) (by decide) (by decide) (g := (mkF m 142 #[.val (.long x0), .second, .val (.long x1), .second, .val (.long x2), .second, .val (.int x3), .val (.int (own_f0_1 x0 x1 x2 x3)), .val (.int (x3 &&& (3 : Int32))), .val (.int (own_f0_2 x0 x1 x2 x3)), .val (.int (own_f0_3 x0 x1 x2 x3)), .val (.ref a5), .val (.ref a17), .val (.int (1 : Int32))] [(.long x2), (.ref a17), (.int (1 : Int32))])) rfl (by rw [hml]; rfl) (argsL := [(.long x2)]) (rest := [(.int (1 : Int32))]) (lenOf pd_8 rfl) rfl (by show 2 * 0 + _ ≤ _; exact Nat.le_of_eq rfl) (hb hby at_142)
                  obtain ⟨rfl, N120, K120, iA, S120, ixn120, lb120, hbl120, hiA120, B120, I120⟩ := q120
                  have Nn120 := Fr.app Nn84 N120
                  have IV120 := own_bld_inv (by decide) hbl120
                  have en_iA : a5 ≠ iA := Nat.ne_of_lt (Nat.lt_of_lt_of_le f85.lt hiA120)
                  have f121 := f85.keep K120
                  have f122 := f86.keep K120 (own_nin en_w)
                  have f123 := f87.keep K120 (own_nin en_w)
                  refine own_Goes.step st120 ?_
                  show own_Goes _ _ _ _ _ _ _ (T120.setTop (mkF m 145 #[.val (.long x0), .second, .val (.long x1), .second, .val (.long x2), .second, .val (.int x3), .val (.int (own_f0_1 x0 x1 x2 x3)), .val (.int (x3 &&& (3 : Int32))), .val (.int (own_f0_2 x0 x1 x2 x3)), .val (.int (own_f0_3 x0 x1 x2 x3)), .val (.ref a5), .val (.ref a17), .val (.int (1 : Int32))] [(.int (own_bi (own_mem (own_setJ (fun _ => 0) 0 x0) 1 x2))), (.int (1 : Int32))]))
                  refine own_Goes.step (fun tq kq => XT.lload Y120.here hx rfl (hb hby at_145) rfl kq) ?_
                  show own_Goes _ _ _ _ _ _ _ (T120.setTop (mkF m 147 #[.val (.long x0), .second, .val (.long x1), .second, .val (.long x2), .second, .val (.int x3), .val (.int (own_f0_1 x0 x1 x2 x3)), .val (.int (x3 &&& (3 : Int32))), .val (.int (own_f0_2 x0 x1 x2 x3)), .val (.int (own_f0_3 x0 x1 x2 x3)), .val (.ref a5), .val (.ref a17), .val (.int (1 : Int32))] [(.long x2), (.int (own_bi (own_mem (own_setJ (fun _ => 0) 0 x0) 1 x2))), (.int (1 : Int32))]))
                  refine own_Goes.step (fun tq kq => XT.lloadN Y120.here hx rfl (hb hby at_147) rfl kq) ?_
                  show own_Goes _ _ _ _ _ _ _ (T120.setTop (mkF m 148 #[.val (.long x0), .second, .val (.long x1), .second, .val (.long x2), .second, .val (.int x3), .val (.int (own_f0_1 x0 x1 x2 x3)), .val (.int (x3 &&& (3 : Int32))), .val (.int (own_f0_2 x0 x1 x2 x3)), .val (.int (own_f0_3 x0 x1 x2 x3)), .val (.ref a5), .val (.ref a17), .val (.int (1 : Int32))] [(.long x0), (.long x2), (.int (own_bi (own_mem (own_setJ (fun _ => 0) 0 x0) 1 x2))), (.int (1 : Int32))]))
                  refine own_Goes.step (fun tq kq => XT.lloadN Y120.here hx rfl (hb hby at_148) rfl kq) ?_
                  show own_Goes _ _ _ _ _ _ _ (T120.setTop (mkF m 149 #[.val (.long x0), .second, .val (.long x1), .second, .val (.long x2), .second, .val (.int x3), .val (.int (own_f0_1 x0 x1 x2 x3)), .val (.int (x3 &&& (3 : Int32))), .val (.int (own_f0_2 x0 x1 x2 x3)), .val (.int (own_f0_3 x0 x1 x2 x3)), .val (.ref a5), .val (.ref a17), .val (.int (1 : Int32))] [(.long x1), (.long x0), (.long x2), (.int (own_bi (own_mem (own_setJ (fun _ => 0) 0 x0) 1 x2))), (.int (1 : Int32))]))
                  refine own_Goes.step (fun tq kq => XS.iload Y120.here hx rfl (hb hby at_149) rfl kq) ?_
                  show own_Goes _ _ _ _ _ _ _ (T120.setTop (mkF m 151 #[.val (.long x0), .second, .val (.long x1), .second, .val (.long x2), .second, .val (.int x3), .val (.int (own_f0_1 x0 x1 x2 x3)), .val (.int (x3 &&& (3 : Int32))), .val (.int (own_f0_2 x0 x1 x2 x3)), .val (.int (own_f0_3 x0 x1 x2 x3)), .val (.ref a5), .val (.ref a17), .val (.int (1 : Int32))] [(.int (own_f0_1 x0 x1 x2 x3)), (.long x1), (.long x0), (.long x2), (.int (own_bi (own_mem (own_setJ (fun _ => 0) 0 x0) 1 x2))), (.int (1 : Int32))]))
                  obtain ⟨w124, T124, L124, q124, Y124, st124⟩ := own_stat Y120 hx hZ rfl hown (own_at hw 99 rfl) (own_at hw 100 rfl) (own_at hw 101 rfl) (own_at hw 102 rfl) (by decide) (own_m15 l Z a0 hw [] x2 x0 x1 (own_f0_1 x0 x1 x2 x3) T120.heap ) (by decide) (W := 2) (by decide) (by decide) (by decide) (g := (mkF m 151 #[.val (.long x0), .second, .val (.long x1), .second, .val (.long x2), .second, .val (.int x3), .val (.int (own_f0_1 x0 x1 x2 x3)), .val (.int (x3 &&& (3 : Int32))), .val (.int (own_f0_2 x0 x1 x2 x3)), .val (.int (own_f0_3 x0 x1 x2 x3)), .val (.ref a5), .val (.ref a17), .val (.int (1 : Int32))] [(.int (own_f0_1 x0 x1 x2 x3)), (.long x1), (.long x0), (.long x2), (.int (own_bi (own_mem (own_setJ (fun _ => 0) 0 x0) 1 x2))), (.int (1 : Int32))])) rfl (by rw [hml]; rfl) (argsL := [(.long x2), (.long x0), (.long x1), (.int (own_f0_1 x0 x1 x2 x3))]) (rest := [(.int (own_bi (own_mem (own_setJ (fun _ => 0) 0 x0) 1 x2))), (.int (1 : Int32))]) (lenOf pd_15 rfl) rfl (by show 2 * 0 + _ ≤ _; exact Nat.le_of_eq rfl) (hb hby at_151)
                  obtain ⟨e124, X124⟩ := own_clean q124 Y124 rfl rfl
                  obtain ⟨rfl, -, -⟩ := q124
                  refine own_Goes.step st124 ?_
                  show own_Goes _ _ _ _ _ _ _ (T124.setTop (mkF m 154 #[.val (.long x0), .second, .val (.long x1), .second, .val (.long x2), .second, .val (.int x3), .val (.int (own_f0_1 x0 x1 x2 x3)), .val (.int (x3 &&& (3 : Int32))), .val (.int (own_f0_2 x0 x1 x2 x3)), .val (.int (own_f0_3 x0 x1 x2 x3)), .val (.ref a5), .val (.ref a17), .val (.int (1 : Int32))] [(.int (own_f15 x2 x0 x1 (own_f0_1 x0 x1 x2 x3))), (.int (own_bi (own_mem (own_setJ (fun _ => 0) 0 x0) 1 x2))), (.int (1 : Int32))]))
                  refine own_Goes.step (fun tq kq => XS.icmpNo X124.here hx rfl (hb hby at_154) rfl (XT.ii_ne_f (own_held1 rfl hc38 hc88)) kq) ?_
                  show own_Goes _ _ _ _ _ _ _ (T124.setTop (mkF m 157 #[.val (.long x0), .second, .val (.long x1), .second, .val (.long x2), .second, .val (.int x3), .val (.int (own_f0_1 x0 x1 x2 x3)), .val (.int (x3 &&& (3 : Int32))), .val (.int (own_f0_2 x0 x1 x2 x3)), .val (.int (own_f0_3 x0 x1 x2 x3)), .val (.ref a5), .val (.ref a17), .val (.int (1 : Int32))] [(.int (1 : Int32))]))
                  refine own_Goes.step (fun tq kq => XT.iconstV X124.here hx rfl (1 : Int32) (hb hby at_157) (by decide) kq) ?_
                  show own_Goes _ _ _ _ _ _ _ (T124.setTop (mkF m 158 #[.val (.long x0), .second, .val (.long x1), .second, .val (.long x2), .second, .val (.int x3), .val (.int (own_f0_1 x0 x1 x2 x3)), .val (.int (x3 &&& (3 : Int32))), .val (.int (own_f0_2 x0 x1 x2 x3)), .val (.int (own_f0_3 x0 x1 x2 x3)), .val (.ref a5), .val (.ref a17), .val (.int (1 : Int32))] [(.int (1 : Int32)), (.int (1 : Int32))]))
                  refine own_Goes.step (fun tq kq => XS.goto X124.here hx rfl (pc0 := 158) (pc' := 162) rfl (hb hby at_158) (by decide) (by decide) kq) ?_
                  show own_Goes _ _ _ _ _ _ _ (T124.setTop (mkF m 162 #[.val (.long x0), .second, .val (.long x1), .second, .val (.long x2), .second, .val (.int x3), .val (.int (own_f0_1 x0 x1 x2 x3)), .val (.int (x3 &&& (3 : Int32))), .val (.int (own_f0_2 x0 x1 x2 x3)), .val (.int (own_f0_3 x0 x1 x2 x3)), .val (.ref a5), .val (.ref a17), .val (.int (1 : Int32))] [(.int (1 : Int32)), (.int (1 : Int32))]))
                  refine own_Goes.step (fun tq kq => XS.iand X124.here hx rfl (hb hby at_162) rfl kq) ?_
                  show own_Goes _ _ _ _ _ _ _ (T124.setTop (mkF m 163 #[.val (.long x0), .second, .val (.long x1), .second, .val (.long x2), .second, .val (.int x3), .val (.int (own_f0_1 x0 x1 x2 x3)), .val (.int (x3 &&& (3 : Int32))), .val (.int (own_f0_2 x0 x1 x2 x3)), .val (.int (own_f0_3 x0 x1 x2 x3)), .val (.ref a5), .val (.ref a17), .val (.int (1 : Int32))] [(.int (1 : Int32))]))
                  refine own_Goes.step (fun tq kq => XS.istore X124.here hx rfl (hb hby at_163) rfl (l' := #[.val (.long x0), .second, .val (.long x1), .second, .val (.long x2), .second, .val (.int x3), .val (.int (own_f0_1 x0 x1 x2 x3)), .val (.int (x3 &&& (3 : Int32))), .val (.int (own_f0_2 x0 x1 x2 x3)), .val (.int (own_f0_3 x0 x1 x2 x3)), .val (.ref a5), .val (.ref a17), .val (.int (1 : Int32))]) rfl kq) ?_
                  show own_Goes _ _ _ _ _ _ _ (T124.setTop (mkF m 165 #[.val (.long x0), .second, .val (.long x1), .second, .val (.long x2), .second, .val (.int x3), .val (.int (own_f0_1 x0 x1 x2 x3)), .val (.int (x3 &&& (3 : Int32))), .val (.int (own_f0_2 x0 x1 x2 x3)), .val (.int (own_f0_3 x0 x1 x2 x3)), .val (.ref a5), .val (.ref a17), .val (.int (1 : Int32))] []))
                  refine own_Goes.step (fun tq kq => XS.aload X124.here hx rfl (hb hby at_165) rfl rfl kq) ?_
                  show own_Goes _ _ _ _ _ _ _ (T124.setTop (mkF m 167 #[.val (.long x0), .second, .val (.long x1), .second, .val (.long x2), .second, .val (.int x3), .val (.int (own_f0_1 x0 x1 x2 x3)), .val (.int (x3 &&& (3 : Int32))), .val (.int (own_f0_2 x0 x1 x2 x3)), .val (.int (own_f0_3 x0 x1 x2 x3)), .val (.ref a5), .val (.ref a17), .val (.int (1 : Int32))] [(.ref a17)]))
                  refine own_Goes.step (fun tq kq => XT.lload X124.here hx rfl (hb hby at_167) rfl kq) ?_
                  show own_Goes _ _ _ _ _ _ _ (T124.setTop (mkF m 169 #[.val (.long x0), .second, .val (.long x1), .second, .val (.long x2), .second, .val (.int x3), .val (.int (own_f0_1 x0 x1 x2 x3)), .val (.int (x3 &&& (3 : Int32))), .val (.int (own_f0_2 x0 x1 x2 x3)), .val (.int (own_f0_3 x0 x1 x2 x3)), .val (.ref a5), .val (.ref a17), .val (.int (1 : Int32))] [(.long x2), (.ref a17)]))
                  refine own_Goes.step (fun tq kq => XS.aload X124.here hx rfl (hb hby at_169) rfl rfl kq) ?_
                  show own_Goes _ _ _ _ _ _ _ (T124.setTop (mkF m 171 #[.val (.long x0), .second, .val (.long x1), .second, .val (.long x2), .second, .val (.int x3), .val (.int (own_f0_1 x0 x1 x2 x3)), .val (.int (x3 &&& (3 : Int32))), .val (.int (own_f0_2 x0 x1 x2 x3)), .val (.int (own_f0_3 x0 x1 x2 x3)), .val (.ref a5), .val (.ref a17), .val (.int (1 : Int32))] [(.ref a5), (.long x2), (.ref a17)]))
                  have hbl125 : own_bld (own_setJ (own_setJ (fun _ => 0) 0 x0) 1 x2) (-1 : Int32) 1 = some (S120, ixn120, lb120) := (own_bld_congr 1 (by decide) (fun j hj => (if_neg (Nat.ne_of_lt hj)).symm)).symm.trans hbl120
                  have IV125 := own_bld_inv (by decide) hbl125
                  obtain ⟨t125, ht125, hm125⟩ := IV125.find (by decide) x2
                  obtain ⟨w125, T125, L125, q125, Y125, st125⟩ := own_virt X124 hx hZ e124 (own_W.exa B120) hown (own_at hw 39 rfl) (own_at hw 40 rfl) (own_at hw 42 rfl) (own_at hw 41 rfl) (own_at hw 21 rfl) (own_at hw 43 rfl) (by decide) (own_m5s l Z a0 hw [] a17 x2 a5 kA sA dA pA (own_setJ (fun _ => 0) 0 x0) (own_setJ (fun _ => 0) 0 (own_f1_size ((8 : Int64) + (((XT.ushr x3 (4 : Int32)) &&& (7 : Int32)).toInt64)) (own_f0_4 x0 x1 x2 x3))) (own_set (fun _ => 0) 0 (nar .boolean (own_f7 (own_f1_delete ((8 : Int64) + (((XT.ushr x3 (4 : Int32)) &&& (7 : Int32)).toInt64)) (own_f0_4 x0 x1 x2 x3))))) 1 fs84 mx84 am84 lb120 (Int32.ofNat ixn120) (own_f1_size ((8 : Int64) + (((XT.ushr x3 (4 : Int32)) &&& (7 : Int32)).toInt64)) (own_f0_4 x0 x1 x2 x3)) (own_f1_delete ((8 : Int64) + (((XT.ushr x3 (4 : Int32)) &&& (7 : Int32)).toInt64)) (own_f0_4 x0 x1 x2 x3)) iA S120 t125 n0 T120.heap B120 I120 f121 f122 f123 (own_flag x0 x1 x2 x3) en_w en_kA en_sA en_dA en_pA (by decide) en_iA (IV125.1.ok (by decide)) hm125 ht125 (own_ix8 (by have := IV125.2.1; omega))) (by decide) (W := 0) (by decide) (by decide) (by decide) (g := (mkF m 171 #[.val (.long x0), .second, .val (.long x1), .second, .val (.long x2), .second, .val (.int x3), .val (.int (own_f0_1 x0 x1 x2 x3)), .val (.int (x3 &&& (3 : Int32))), .val (.int (own_f0_2 x0 x1 x2 x3)), .val (.int (own_f0_3 x0 x1 x2 x3)), .val (.ref a5), .val (.ref a17), .val (.int (1 : Int32))] [(.ref a5), (.long x2), (.ref a17)])) rfl (by rw [hml]; rfl) (argsL := [(.long x2), (.ref a5)]) (rest := []) (lenOf pd_5 rfl) rfl (by show 2 * 0 + _ ≤ _; exact Nat.le_of_eq rfl) (hb hby at_171)
                  obtain ⟨rfl, N125, K125, fs125, mx125, am125, -, hif125⟩ := q125
                  have Nn125 := Fr.app Nn120 N125
                  refine own_Goes.step st125 ?_
                  show own_Goes _ _ _ _ _ _ _ (T125.setTop (mkF m 174 #[.val (.long x0), .second, .val (.long x1), .second, .val (.long x2), .second, .val (.int x3), .val (.int (own_f0_1 x0 x1 x2 x3)), .val (.int (x3 &&& (3 : Int32))), .val (.int (own_f0_2 x0 x1 x2 x3)), .val (.int (own_f0_3 x0 x1 x2 x3)), .val (.ref a5), .val (.ref a17), .val (.int (1 : Int32))] []))
                  by_cases hq : S120 t125 = (0 : Int32)
                  · rw [if_pos hq] at hif125
                    obtain ⟨Bf, If⟩ := hif125
                    have IVf := IV125.ins (by decide) hm125
                    rw [if_pos hq, if_pos hq] at IVf
                    refine own_Goes.step (fun tq kq => XS.iload Y125.here hx rfl (hb hby at_174) rfl kq) ?_
                    show own_Goes _ _ _ _ _ _ _ (T125.setTop (mkF m 176 #[.val (.long x0), .second, .val (.long x1), .second, .val (.long x2), .second, .val (.int x3), .val (.int (own_f0_1 x0 x1 x2 x3)), .val (.int (x3 &&& (3 : Int32))), .val (.int (own_f0_2 x0 x1 x2 x3)), .val (.int (own_f0_3 x0 x1 x2 x3)), .val (.ref a5), .val (.ref a17), .val (.int (1 : Int32))] [(.int (own_f0_3 x0 x1 x2 x3))]))
                    by_cases hc126 : (own_f0_3 x0 x1 x2 x3) = (0 : Int32)
                    · refine own_Goes.step (fun tq kq => XS.ifYes Y125.here hx rfl (pc0 := 176) (pc' := 191) rfl (hb hby at_176) rfl (XT.i0_eq_t hc126) (by decide) (by decide) kq) ?_
                      show own_Goes _ _ _ _ _ _ _ (T125.setTop (mkF m 191 #[.val (.long x0), .second, .val (.long x1), .second, .val (.long x2), .second, .val (.int x3), .val (.int (own_f0_1 x0 x1 x2 x3)), .val (.int (x3 &&& (3 : Int32))), .val (.int (own_f0_2 x0 x1 x2 x3)), .val (.int (own_f0_3 x0 x1 x2 x3)), .val (.ref a5), .val (.ref a17), .val (.int (1 : Int32))] []))
                      refine own_Goes.step (fun tq kq => XS.aload Y125.here hx rfl (hb hby at_191) rfl rfl kq) ?_
                      show own_Goes _ _ _ _ _ _ _ (T125.setTop (mkF m 193 #[.val (.long x0), .second, .val (.long x1), .second, .val (.long x2), .second, .val (.int x3), .val (.int (own_f0_1 x0 x1 x2 x3)), .val (.int (x3 &&& (3 : Int32))), .val (.int (own_f0_2 x0 x1 x2 x3)), .val (.int (own_f0_3 x0 x1 x2 x3)), .val (.ref a5), .val (.ref a17), .val (.int (1 : Int32))] [(.ref a17)]))
                      obtain ⟨w127, T127, L127, q127, Y127, st127⟩ := own_virt Y125 hx hZ rfl (own_W.exa Bf) hown (own_at hw 89 rfl) (own_at hw 90 rfl) (own_at hw 92 rfl) (own_at hw 91 rfl) (own_at hw 21 rfl) (own_at hw 93 rfl) (by decide) (own_m13a l Z a0 hw [] a17 kA sA dA pA (own_setJ (own_setJ (fun _ => 0) 0 x0) 1 x2) (own_setJ (own_setJ (fun _ => 0) 0 (own_f1_size ((8 : Int64) + (((XT.ushr x3 (4 : Int32)) &&& (7 : Int32)).toInt64)) (own_f0_4 x0 x1 x2 x3))) 1 (own_f1_size ((8 : Int64) + (((XT.ushr x3 (4 : Int32)) &&& (7 : Int32)).toInt64)) (own_f0_4 x0 x1 x2 x3))) (own_set (own_set (fun _ => 0) 0 (nar .boolean (own_f7 (own_f1_delete ((8 : Int64) + (((XT.ushr x3 (4 : Int32)) &&& (7 : Int32)).toInt64)) (own_f0_4 x0 x1 x2 x3))))) 1 (nar .boolean (own_f7 (own_f1_delete ((8 : Int64) + (((XT.ushr x3 (4 : Int32)) &&& (7 : Int32)).toInt64)) (own_f0_4 x0 x1 x2 x3))))) 1 fs125 mx125 am125 (Int32.ofNat ixn120 + (1 : Int32)) iA (own_set S120 t125 (Int32.ofNat (1 + 1))) t125 n0 T125.heap Bf If ht125) (by decide) (W := 0) (by decide) (by decide) (by decide) (g := (mkF m 193 #[.val (.long x0), .second, .val (.long x1), .second, .val (.long x2), .second, .val (.int x3), .val (.int (own_f0_1 x0 x1 x2 x3)), .val (.int (x3 &&& (3 : Int32))), .val (.int (own_f0_2 x0 x1 x2 x3)), .val (.int (own_f0_3 x0 x1 x2 x3)), .val (.ref a5), .val (.ref a17), .val (.int (1 : Int32))] [(.ref a17)])) rfl (by rw [hml]; rfl) (argsL := []) (rest := []) (lenOf pd_13 rfl) rfl (by show 2 * 0 + _ ≤ _; exact Nat.le_of_eq rfl) (hb hby at_193)
                      obtain ⟨rfl, N127, B127, I127⟩ := q127
                      rw [own_setset hq] at I127
                      have Nn127 := Fr.app Nn125 N127
                      refine own_Goes.step st127 ?_
                      show own_Goes _ _ _ _ _ _ _ (T127.setTop (mkF m 196 #[.val (.long x0), .second, .val (.long x1), .second, .val (.long x2), .second, .val (.int x3), .val (.int (own_f0_1 x0 x1 x2 x3)), .val (.int (x3 &&& (3 : Int32))), .val (.int (own_f0_2 x0 x1 x2 x3)), .val (.int (own_f0_3 x0 x1 x2 x3)), .val (.ref a5), .val (.ref a17), .val (.int (1 : Int32))] []))
                      exact JS T127 _ _ Y127 rfl Nn127 _ _ _ _ _ _ _ _ _ _ B127 I127 IV125
                    · refine own_Goes.step (fun tq kq => XS.ifNo Y125.here hx rfl (hb hby at_176) rfl (XT.i0_eq_f hc126) kq) ?_
                      show own_Goes _ _ _ _ _ _ _ (T125.setTop (mkF m 179 #[.val (.long x0), .second, .val (.long x1), .second, .val (.long x2), .second, .val (.int x3), .val (.int (own_f0_1 x0 x1 x2 x3)), .val (.int (x3 &&& (3 : Int32))), .val (.int (own_f0_2 x0 x1 x2 x3)), .val (.int (own_f0_3 x0 x1 x2 x3)), .val (.ref a5), .val (.ref a17), .val (.int (1 : Int32))] []))
                      refine own_Goes.step (fun tq kq => XS.iload Y125.here hx rfl (hb hby at_179) rfl kq) ?_
                      show own_Goes _ _ _ _ _ _ _ (T125.setTop (mkF m 181 #[.val (.long x0), .second, .val (.long x1), .second, .val (.long x2), .second, .val (.int x3), .val (.int (own_f0_1 x0 x1 x2 x3)), .val (.int (x3 &&& (3 : Int32))), .val (.int (own_f0_2 x0 x1 x2 x3)), .val (.int (own_f0_3 x0 x1 x2 x3)), .val (.ref a5), .val (.ref a17), .val (.int (1 : Int32))] [(.int (1 : Int32))]))
                      refine own_Goes.step (fun tq kq => XS.aload Y125.here hx rfl (hb hby at_181) rfl rfl kq) ?_
                      show own_Goes _ _ _ _ _ _ _ (T125.setTop (mkF m 183 #[.val (.long x0), .second, .val (.long x1), .second, .val (.long x2), .second, .val (.int x3), .val (.int (own_f0_1 x0 x1 x2 x3)), .val (.int (x3 &&& (3 : Int32))), .val (.int (own_f0_2 x0 x1 x2 x3)), .val (.int (own_f0_3 x0 x1 x2 x3)), .val (.ref a5), .val (.ref a17), .val (.int (1 : Int32))] [(.ref a17), (.int (1 : Int32))]))
                      refine own_Goes.step (fun tq kq => XT.lload Y125.here hx rfl (hb hby at_183) rfl kq) ?_
                      show own_Goes _ _ _ _ _ _ _ (T125.setTop (mkF m 185 #[.val (.long x0), .second, .val (.long x1), .second, .val (.long x2), .second, .val (.int x3), .val (.int (own_f0_1 x0 x1 x2 x3)), .val (.int (x3 &&& (3 : Int32))), .val (.int (own_f0_2 x0 x1 x2 x3)), .val (.int (own_f0_3 x0 x1 x2 x3)), .val (.ref a5), .val (.ref a17), .val (.int (1 : Int32))] [(.long x2), (.ref a17), (.int (1 : Int32))]))
                      obtain ⟨t128, ht128, hm128⟩ := IVf.find (by decide) x2
                      have hr128 := IVf.says hm128
                      obtain ⟨w128, T128, L128, q128, Y128, st128⟩ := own_virt Y125 hx hZ rfl (own_W.exa Bf) hown (own_at hw 64 rfl) (own_at hw 65 rfl) (own_at hw 67 rfl) (own_at hw 66 rfl) (own_at hw 21 rfl) (own_at hw 68 rfl) (by decide) (own_m8s l Z a0 hw [] a17 x2 kA sA dA pA (own_setJ (own_setJ (fun _ => 0) 0 x0) 1 x2) (own_setJ (own_setJ (fun _ => 0) 0 (own_f1_size ((8 : Int64) + (((XT.ushr x3 (4 : Int32)) &&& (7 : Int32)).toInt64)) (own_f0_4 x0 x1 x2 x3))) 1 (own_f1_size ((8 : Int64) + (((XT.ushr x3 (4 : Int32)) &&& (7 : Int32)).toInt64)) (own_f0_4 x0 x1 x2 x3))) (own_set (own_set (fun _ => 0) 0 (nar .boolean (own_f7 (own_f1_delete ((8 : Int64) + (((XT.ushr x3 (4 : Int32)) &&& (7 : Int32)).toInt64)) (own_f0_4 x0 x1 x2 x3))))) 1 (nar .boolean (own_f7 (own_f1_delete ((8 : Int64) + (((XT.ushr x3 (4 : Int32)) &&& (7 : Int32)).toInt64)) (own_f0_4 x0 x1 x2 x3))))) 2 fs125 mx125 am125 (Int32.ofNat t125) (Int32.ofNat ixn120 + (1 : Int32)) iA (own_set S120 t125 (Int32.ofNat (1 + 1))) t128 (own_mem (own_setJ (own_setJ (fun _ => 0) 0 x0) 1 x2) 2 x2) n0 T125.heap Bf If (IVf.1.ok (by decide)) hm128 ht128 hr128) (by decide) (W := 1) (by decide) (by decide) (by decide) (g := (mkF m 185 #[.val (.long x0), .second, .val (.long x1), .second, .val (.long x2), .second, .val (.int x3), .val (.int (own_f0_1 x0 x1 x2 x3)), .val (.int (x3 &&& (3 : Int32))), .val (.int (own_f0_2 x0 x1 x2 x3)), .val (.int (own_f0_3 x0 x1 x2 x3)), .val (.ref a5), .val (.ref a17), .val (.int (1 : Int32))] [(.long x2), (.ref a17), (.int (1 : Int32))])) rfl (by rw [hml]; rfl) (argsL := [(.long x2)]) (rest := [(.int (1 : Int32))]) (lenOf pd_8 rfl) rfl (by show 2 * 0 + _ ≤ _; exact Nat.le_of_eq rfl) (hb hby at_185)
                      obtain ⟨e128, X128⟩ := own_clean q128 Y128 rfl rfl
                      obtain ⟨rfl, -, -⟩ := q128
                      rw [show own_bi (own_mem (own_setJ (own_setJ (fun _ => 0) 0 x0) 1 x2) 2 x2) = (1 : Int32) from own_hit rfl] at st128
                      refine own_Goes.step st128 ?_
                      show own_Goes _ _ _ _ _ _ _ (T128.setTop (mkF m 188 #[.val (.long x0), .second, .val (.long x1), .second, .val (.long x2), .second, .val (.int x3), .val (.int (own_f0_1 x0 x1 x2 x3)), .val (.int (x3 &&& (3 : Int32))), .val (.int (own_f0_2 x0 x1 x2 x3)), .val (.int (own_f0_3 x0 x1 x2 x3)), .val (.ref a5), .val (.ref a17), .val (.int (1 : Int32))] [(.int (1 : Int32)), (.int (1 : Int32))]))
                      refine own_Goes.step (fun tq kq => XS.iand X128.here hx rfl (hb hby at_188) rfl kq) ?_
                      show own_Goes _ _ _ _ _ _ _ (T128.setTop (mkF m 189 #[.val (.long x0), .second, .val (.long x1), .second, .val (.long x2), .second, .val (.int x3), .val (.int (own_f0_1 x0 x1 x2 x3)), .val (.int (x3 &&& (3 : Int32))), .val (.int (own_f0_2 x0 x1 x2 x3)), .val (.int (own_f0_3 x0 x1 x2 x3)), .val (.ref a5), .val (.ref a17), .val (.int (1 : Int32))] [(.int (1 : Int32))]))
                      refine own_Goes.step (fun tq kq => XS.istore X128.here hx rfl (hb hby at_189) rfl (l' := #[.val (.long x0), .second, .val (.long x1), .second, .val (.long x2), .second, .val (.int x3), .val (.int (own_f0_1 x0 x1 x2 x3)), .val (.int (x3 &&& (3 : Int32))), .val (.int (own_f0_2 x0 x1 x2 x3)), .val (.int (own_f0_3 x0 x1 x2 x3)), .val (.ref a5), .val (.ref a17), .val (.int (1 : Int32))]) rfl kq) ?_
                      show own_Goes _ _ _ _ _ _ _ (T128.setTop (mkF m 191 #[.val (.long x0), .second, .val (.long x1), .second, .val (.long x2), .second, .val (.int x3), .val (.int (own_f0_1 x0 x1 x2 x3)), .val (.int (x3 &&& (3 : Int32))), .val (.int (own_f0_2 x0 x1 x2 x3)), .val (.int (own_f0_3 x0 x1 x2 x3)), .val (.ref a5), .val (.ref a17), .val (.int (1 : Int32))] []))
                      refine own_Goes.step (fun tq kq => XS.aload X128.here hx rfl (hb hby at_191) rfl rfl kq) ?_
                      show own_Goes _ _ _ _ _ _ _ (T128.setTop (mkF m 193 #[.val (.long x0), .second, .val (.long x1), .second, .val (.long x2), .second, .val (.int x3), .val (.int (own_f0_1 x0 x1 x2 x3)), .val (.int (x3 &&& (3 : Int32))), .val (.int (own_f0_2 x0 x1 x2 x3)), .val (.int (own_f0_3 x0 x1 x2 x3)), .val (.ref a5), .val (.ref a17), .val (.int (1 : Int32))] [(.ref a17)]))
                      obtain ⟨w129, T129, L129, q129, Y129, st129⟩ := own_virt X128 hx hZ e128 (own_W.exa Bf) hown (own_at hw 89 rfl) (own_at hw 90 rfl) (own_at hw 92 rfl) (own_at hw 91 rfl) (own_at hw 21 rfl) (own_at hw 93 rfl) (by decide) (own_m13a l Z a0 hw [] a17 kA sA dA pA (own_setJ (own_setJ (fun _ => 0) 0 x0) 1 x2) (own_setJ (own_setJ (fun _ => 0) 0 (own_f1_size ((8 : Int64) + (((XT.ushr x3 (4 : Int32)) &&& (7 : Int32)).toInt64)) (own_f0_4 x0 x1 x2 x3))) 1 (own_f1_size ((8 : Int64) + (((XT.ushr x3 (4 : Int32)) &&& (7 : Int32)).toInt64)) (own_f0_4 x0 x1 x2 x3))) (own_set (own_set (fun _ => 0) 0 (nar .boolean (own_f7 (own_f1_delete ((8 : Int64) + (((XT.ushr x3 (4 : Int32)) &&& (7 : Int32)).toInt64)) (own_f0_4 x0 x1 x2 x3))))) 1 (nar .boolean (own_f7 (own_f1_delete ((8 : Int64) + (((XT.ushr x3 (4 : Int32)) &&& (7 : Int32)).toInt64)) (own_f0_4 x0 x1 x2 x3))))) 1 fs125 mx125 am125 (Int32.ofNat ixn120 + (1 : Int32)) iA (own_set S120 t125 (Int32.ofNat (1 + 1))) t125 n0 T125.heap Bf If ht125) (by decide) (W := 0) (by decide) (by decide) (by decide) (g := (mkF m 193 #[.val (.long x0), .second, .val (.long x1), .second, .val (.long x2), .second, .val (.int x3), .val (.int (own_f0_1 x0 x1 x2 x3)), .val (.int (x3 &&& (3 : Int32))), .val (.int (own_f0_2 x0 x1 x2 x3)), .val (.int (own_f0_3 x0 x1 x2 x3)), .val (.ref a5), .val (.ref a17), .val (.int (1 : Int32))] [(.ref a17)])) rfl (by rw [hml]; rfl) (argsL := []) (rest := []) (lenOf pd_13 rfl) rfl (by show 2 * 0 + _ ≤ _; exact Nat.le_of_eq rfl) (hb hby at_193)
                      obtain ⟨rfl, N129, B129, I129⟩ := q129
                      rw [own_setset hq] at I129
                      have Nn129 := Fr.app Nn125 N129
                      refine own_Goes.step st129 ?_
                      show own_Goes _ _ _ _ _ _ _ (T129.setTop (mkF m 196 #[.val (.long x0), .second, .val (.long x1), .second, .val (.long x2), .second, .val (.int x3), .val (.int (own_f0_1 x0 x1 x2 x3)), .val (.int (x3 &&& (3 : Int32))), .val (.int (own_f0_2 x0 x1 x2 x3)), .val (.int (own_f0_3 x0 x1 x2 x3)), .val (.ref a5), .val (.ref a17), .val (.int (1 : Int32))] []))
                      exact JS T129 _ _ Y129 rfl Nn129 _ _ _ _ _ _ _ _ _ _ B129 I129 IV125
                  · rw [if_neg hq] at hif125
                    obtain ⟨Bf, If⟩ := hif125
                    have IVf := IV125.ins (by decide) hm125
                    rw [if_neg hq, if_neg hq] at IVf
                    refine own_Goes.step (fun tq kq => XS.iload Y125.here hx rfl (hb hby at_174) rfl kq) ?_
                    show own_Goes _ _ _ _ _ _ _ (T125.setTop (mkF m 176 #[.val (.long x0), .second, .val (.long x1), .second, .val (.long x2), .second, .val (.int x3), .val (.int (own_f0_1 x0 x1 x2 x3)), .val (.int (x3 &&& (3 : Int32))), .val (.int (own_f0_2 x0 x1 x2 x3)), .val (.int (own_f0_3 x0 x1 x2 x3)), .val (.ref a5), .val (.ref a17), .val (.int (1 : Int32))] [(.int (own_f0_3 x0 x1 x2 x3))]))
                    by_cases hc130 : (own_f0_3 x0 x1 x2 x3) = (0 : Int32)
                    · refine own_Goes.step (fun tq kq => XS.ifYes Y125.here hx rfl (pc0 := 176) (pc' := 191) rfl (hb hby at_176) rfl (XT.i0_eq_t hc130) (by decide) (by decide) kq) ?_
                      show own_Goes _ _ _ _ _ _ _ (T125.setTop (mkF m 191 #[.val (.long x0), .second, .val (.long x1), .second, .val (.long x2), .second, .val (.int x3), .val (.int (own_f0_1 x0 x1 x2 x3)), .val (.int (x3 &&& (3 : Int32))), .val (.int (own_f0_2 x0 x1 x2 x3)), .val (.int (own_f0_3 x0 x1 x2 x3)), .val (.ref a5), .val (.ref a17), .val (.int (1 : Int32))] []))
                      refine own_Goes.step (fun tq kq => XS.aload Y125.here hx rfl (hb hby at_191) rfl rfl kq) ?_
                      show own_Goes _ _ _ _ _ _ _ (T125.setTop (mkF m 193 #[.val (.long x0), .second, .val (.long x1), .second, .val (.long x2), .second, .val (.int x3), .val (.int (own_f0_1 x0 x1 x2 x3)), .val (.int (x3 &&& (3 : Int32))), .val (.int (own_f0_2 x0 x1 x2 x3)), .val (.int (own_f0_3 x0 x1 x2 x3)), .val (.ref a5), .val (.ref a17), .val (.int (1 : Int32))] [(.ref a17)]))
                      obtain ⟨w131, T131, L131, q131, Y131, st131⟩ := own_virt Y125 hx hZ rfl (own_W.exa Bf) hown (own_at hw 89 rfl) (own_at hw 90 rfl) (own_at hw 92 rfl) (own_at hw 91 rfl) (own_at hw 21 rfl) (own_at hw 93 rfl) (by decide) (own_m13m l Z a0 hw [] a17 kA sA dA pA (own_setJ (own_setJ (fun _ => 0) 0 x0) 1 x2) (own_setJ (own_setJ (fun _ => 0) 0 (own_f1_size ((8 : Int64) + (((XT.ushr x3 (4 : Int32)) &&& (7 : Int32)).toInt64)) (own_f0_4 x0 x1 x2 x3))) 1 (own_f1_size ((8 : Int64) + (((XT.ushr x3 (4 : Int32)) &&& (7 : Int32)).toInt64)) (own_f0_4 x0 x1 x2 x3))) (own_set (own_set (fun _ => 0) 0 (nar .boolean (own_f7 (own_f1_delete ((8 : Int64) + (((XT.ushr x3 (4 : Int32)) &&& (7 : Int32)).toInt64)) (own_f0_4 x0 x1 x2 x3))))) 1 (nar .boolean (own_f7 (own_f1_delete ((8 : Int64) + (((XT.ushr x3 (4 : Int32)) &&& (7 : Int32)).toInt64)) (own_f0_4 x0 x1 x2 x3))))) 1 fs125 mx125 am125 (Int32.ofNat ixn120) iA S120 n0 T125.heap Bf If) (by decide) (W := 0) (by decide) (by decide) (by decide) (g := (mkF m 193 #[.val (.long x0), .second, .val (.long x1), .second, .val (.long x2), .second, .val (.int x3), .val (.int (own_f0_1 x0 x1 x2 x3)), .val (.int (x3 &&& (3 : Int32))), .val (.int (own_f0_2 x0 x1 x2 x3)), .val (.int (own_f0_3 x0 x1 x2 x3)), .val (.ref a5), .val (.ref a17), .val (.int (1 : Int32))] [(.ref a17)])) rfl (by rw [hml]; rfl) (argsL := []) (rest := []) (lenOf pd_13 rfl) rfl (by show 2 * 0 + _ ≤ _; exact Nat.le_of_eq rfl) (hb hby at_193)
                      obtain ⟨rfl, N131, B131, I131⟩ := q131
                      have Nn131 := Fr.app Nn125 N131
                      refine own_Goes.step st131 ?_
                      show own_Goes _ _ _ _ _ _ _ (T131.setTop (mkF m 196 #[.val (.long x0), .second, .val (.long x1), .second, .val (.long x2), .second, .val (.int x3), .val (.int (own_f0_1 x0 x1 x2 x3)), .val (.int (x3 &&& (3 : Int32))), .val (.int (own_f0_2 x0 x1 x2 x3)), .val (.int (own_f0_3 x0 x1 x2 x3)), .val (.ref a5), .val (.ref a17), .val (.int (1 : Int32))] []))
                      exact JS T131 _ _ Y131 rfl Nn131 _ _ _ _ _ _ _ _ _ _ B131 I131 IV125
                    · refine own_Goes.step (fun tq kq => XS.ifNo Y125.here hx rfl (hb hby at_176) rfl (XT.i0_eq_f hc130) kq) ?_
                      show own_Goes _ _ _ _ _ _ _ (T125.setTop (mkF m 179 #[.val (.long x0), .second, .val (.long x1), .second, .val (.long x2), .second, .val (.int x3), .val (.int (own_f0_1 x0 x1 x2 x3)), .val (.int (x3 &&& (3 : Int32))), .val (.int (own_f0_2 x0 x1 x2 x3)), .val (.int (own_f0_3 x0 x1 x2 x3)), .val (.ref a5), .val (.ref a17), .val (.int (1 : Int32))] []))
                      refine own_Goes.step (fun tq kq => XS.iload Y125.here hx rfl (hb hby at_179) rfl kq) ?_
                      show own_Goes _ _ _ _ _ _ _ (T125.setTop (mkF m 181 #[.val (.long x0), .second, .val (.long x1), .second, .val (.long x2), .second, .val (.int x3), .val (.int (own_f0_1 x0 x1 x2 x3)), .val (.int (x3 &&& (3 : Int32))), .val (.int (own_f0_2 x0 x1 x2 x3)), .val (.int (own_f0_3 x0 x1 x2 x3)), .val (.ref a5), .val (.ref a17), .val (.int (1 : Int32))] [(.int (1 : Int32))]))
                      refine own_Goes.step (fun tq kq => XS.aload Y125.here hx rfl (hb hby at_181) rfl rfl kq) ?_
                      show own_Goes _ _ _ _ _ _ _ (T125.setTop (mkF m 183 #[.val (.long x0), .second, .val (.long x1), .second, .val (.long x2), .second, .val (.int x3), .val (.int (own_f0_1 x0 x1 x2 x3)), .val (.int (x3 &&& (3 : Int32))), .val (.int (own_f0_2 x0 x1 x2 x3)), .val (.int (own_f0_3 x0 x1 x2 x3)), .val (.ref a5), .val (.ref a17), .val (.int (1 : Int32))] [(.ref a17), (.int (1 : Int32))]))
                      refine own_Goes.step (fun tq kq => XT.lload Y125.here hx rfl (hb hby at_183) rfl kq) ?_
                      show own_Goes _ _ _ _ _ _ _ (T125.setTop (mkF m 185 #[.val (.long x0), .second, .val (.long x1), .second, .val (.long x2), .second, .val (.int x3), .val (.int (own_f0_1 x0 x1 x2 x3)), .val (.int (x3 &&& (3 : Int32))), .val (.int (own_f0_2 x0 x1 x2 x3)), .val (.int (own_f0_3 x0 x1 x2 x3)), .val (.ref a5), .val (.ref a17), .val (.int (1 : Int32))] [(.long x2), (.ref a17), (.int (1 : Int32))]))
                      obtain ⟨t132, ht132, hm132⟩ := IVf.find (by decide) x2
                      have hr132 := IVf.says hm132
                      obtain ⟨w132, T132, L132, q132, Y132, st132⟩ := own_virt Y125 hx hZ rfl (own_W.exa Bf) hown (own_at hw 64 rfl) (own_at hw 65 rfl) (own_at hw 67 rfl) (own_at hw 66 rfl) (own_at hw 21 rfl) (own_at hw 68 rfl) (by decide) (own_m8s l Z a0 hw [] a17 x2 kA sA dA pA (own_setJ (own_setJ (fun _ => 0) 0 x0) 1 x2) (own_setJ (own_setJ (fun _ => 0) 0 (own_f1_size ((8 : Int64) + (((XT.ushr x3 (4 : Int32)) &&& (7 : Int32)).toInt64)) (own_f0_4 x0 x1 x2 x3))) 1 (own_f1_size ((8 : Int64) + (((XT.ushr x3 (4 : Int32)) &&& (7 : Int32)).toInt64)) (own_f0_4 x0 x1 x2 x3))) (own_set (own_set (fun _ => 0) 0 (nar .boolean (own_f7 (own_f1_delete ((8 : Int64) + (((XT.ushr x3 (4 : Int32)) &&& (7 : Int32)).toInt64)) (own_f0_4 x0 x1 x2 x3))))) 1 (nar .boolean (own_f7 (own_f1_delete ((8 : Int64) + (((XT.ushr x3 (4 : Int32)) &&& (7 : Int32)).toInt64)) (own_f0_4 x0 x1 x2 x3))))) 2 fs125 mx125 am125 (-1 : Int32) (Int32.ofNat ixn120) iA S120 t132 (own_mem (own_setJ (own_setJ (fun _ => 0) 0 x0) 1 x2) 2 x2) n0 T125.heap Bf If (IVf.1.ok (by decide)) hm132 ht132 hr132) (by decide) (W := 1) (by decide) (by decide) (by decide) (g := (mkF m 185 #[.val (.long x0), .second, .val (.long x1), .second, .val (.long x2), .second, .val (.int x3), .val (.int (own_f0_1 x0 x1 x2 x3)), .val (.int (x3 &&& (3 : Int32))), .val (.int (own_f0_2 x0 x1 x2 x3)), .val (.int (own_f0_3 x0 x1 x2 x3)), .val (.ref a5), .val (.ref a17), .val (.int (1 : Int32))] [(.long x2), (.ref a17), (.int (1 : Int32))])) rfl (by rw [hml]; rfl) (argsL := [(.long x2)]) (rest := [(.int (1 : Int32))]) (lenOf pd_8 rfl) rfl (by show 2 * 0 + _ ≤ _; exact Nat.le_of_eq rfl) (hb hby at_185)
                      obtain ⟨e132, X132⟩ := own_clean q132 Y132 rfl rfl
                      obtain ⟨rfl, -, -⟩ := q132
                      rw [show own_bi (own_mem (own_setJ (own_setJ (fun _ => 0) 0 x0) 1 x2) 2 x2) = (1 : Int32) from own_hit rfl] at st132
                      refine own_Goes.step st132 ?_
                      show own_Goes _ _ _ _ _ _ _ (T132.setTop (mkF m 188 #[.val (.long x0), .second, .val (.long x1), .second, .val (.long x2), .second, .val (.int x3), .val (.int (own_f0_1 x0 x1 x2 x3)), .val (.int (x3 &&& (3 : Int32))), .val (.int (own_f0_2 x0 x1 x2 x3)), .val (.int (own_f0_3 x0 x1 x2 x3)), .val (.ref a5), .val (.ref a17), .val (.int (1 : Int32))] [(.int (1 : Int32)), (.int (1 : Int32))]))
                      refine own_Goes.step (fun tq kq => XS.iand X132.here hx rfl (hb hby at_188) rfl kq) ?_
                      show own_Goes _ _ _ _ _ _ _ (T132.setTop (mkF m 189 #[.val (.long x0), .second, .val (.long x1), .second, .val (.long x2), .second, .val (.int x3), .val (.int (own_f0_1 x0 x1 x2 x3)), .val (.int (x3 &&& (3 : Int32))), .val (.int (own_f0_2 x0 x1 x2 x3)), .val (.int (own_f0_3 x0 x1 x2 x3)), .val (.ref a5), .val (.ref a17), .val (.int (1 : Int32))] [(.int (1 : Int32))]))
                      refine own_Goes.step (fun tq kq => XS.istore X132.here hx rfl (hb hby at_189) rfl (l' := #[.val (.long x0), .second, .val (.long x1), .second, .val (.long x2), .second, .val (.int x3), .val (.int (own_f0_1 x0 x1 x2 x3)), .val (.int (x3 &&& (3 : Int32))), .val (.int (own_f0_2 x0 x1 x2 x3)), .val (.int (own_f0_3 x0 x1 x2 x3)), .val (.ref a5), .val (.ref a17), .val (.int (1 : Int32))]) rfl kq) ?_
                      show own_Goes _ _ _ _ _ _ _ (T132.setTop (mkF m 191 #[.val (.long x0), .second, .val (.long x1), .second, .val (.long x2), .second, .val (.int x3), .val (.int (own_f0_1 x0 x1 x2 x3)), .val (.int (x3 &&& (3 : Int32))), .val (.int (own_f0_2 x0 x1 x2 x3)), .val (.int (own_f0_3 x0 x1 x2 x3)), .val (.ref a5), .val (.ref a17), .val (.int (1 : Int32))] []))
                      refine own_Goes.step (fun tq kq => XS.aload X132.here hx rfl (hb hby at_191) rfl rfl kq) ?_
                      show own_Goes _ _ _ _ _ _ _ (T132.setTop (mkF m 193 #[.val (.long x0), .second, .val (.long x1), .second, .val (.long x2), .second, .val (.int x3), .val (.int (own_f0_1 x0 x1 x2 x3)), .val (.int (x3 &&& (3 : Int32))), .val (.int (own_f0_2 x0 x1 x2 x3)), .val (.int (own_f0_3 x0 x1 x2 x3)), .val (.ref a5), .val (.ref a17), .val (.int (1 : Int32))] [(.ref a17)]))
                      obtain ⟨w133, T133, L133, q133, Y133, st133⟩ := own_virt X132 hx hZ e132 (own_W.exa Bf) hown (own_at hw 89 rfl) (own_at hw 90 rfl) (own_at hw 92 rfl) (own_at hw 91 rfl) (own_at hw 21 rfl) (own_at hw 93 rfl) (by decide) (own_m13m l Z a0 hw [] a17 kA sA dA pA (own_setJ (own_setJ (fun _ => 0) 0 x0) 1 x2) (own_setJ (own_setJ (fun _ => 0) 0 (own_f1_size ((8 : Int64) + (((XT.ushr x3 (4 : Int32)) &&& (7 : Int32)).toInt64)) (own_f0_4 x0 x1 x2 x3))) 1 (own_f1_size ((8 : Int64) + (((XT.ushr x3 (4 : Int32)) &&& (7 : Int32)).toInt64)) (own_f0_4 x0 x1 x2 x3))) (own_set (own_set (fun _ => 0) 0 (nar .boolean (own_f7 (own_f1_delete ((8 : Int64) + (((XT.ushr x3 (4 : Int32)) &&& (7 : Int32)).toInt64)) (own_f0_4 x0 x1 x2 x3))))) 1 (nar .boolean (own_f7 (own_f1_delete ((8 : Int64) + (((XT.ushr x3 (4 : Int32)) &&& (7 : Int32)).toInt64)) (own_f0_4 x0 x1 x2 x3))))) 1 fs125 mx125 am125 (Int32.ofNat ixn120) iA S120 n0 T125.heap Bf If) (by decide) (W := 0) (by decide) (by decide) (by decide) (g := (mkF m 193 #[.val (.long x0), .second, .val (.long x1), .second, .val (.long x2), .second, .val (.int x3), .val (.int (own_f0_1 x0 x1 x2 x3)), .val (.int (x3 &&& (3 : Int32))), .val (.int (own_f0_2 x0 x1 x2 x3)), .val (.int (own_f0_3 x0 x1 x2 x3)), .val (.ref a5), .val (.ref a17), .val (.int (1 : Int32))] [(.ref a17)])) rfl (by rw [hml]; rfl) (argsL := []) (rest := []) (lenOf pd_13 rfl) rfl (by show 2 * 0 + _ ≤ _; exact Nat.le_of_eq rfl) (hb hby at_193)
                      obtain ⟨rfl, N133, B133, I133⟩ := q133
                      have Nn133 := Fr.app Nn125 N133
                      refine own_Goes.step st133 ?_
                      show own_Goes _ _ _ _ _ _ _ (T133.setTop (mkF m 196 #[.val (.long x0), .second, .val (.long x1), .second, .val (.long x2), .second, .val (.int x3), .val (.int (own_f0_1 x0 x1 x2 x3)), .val (.int (x3 &&& (3 : Int32))), .val (.int (own_f0_2 x0 x1 x2 x3)), .val (.int (own_f0_3 x0 x1 x2 x3)), .val (.ref a5), .val (.ref a17), .val (.int (1 : Int32))] []))
                      exact JS T133 _ _ Y133 rfl Nn133 _ _ _ _ _ _ _ _ _ _ B133 I133 IV125
              · refine own_Goes.step (fun tq kq => XS.icmpNo Y84.here hx rfl (hb hby at_117) rfl (XT.ii_lt_f hc88) kq) ?_
                show own_Goes _ _ _ _ _ _ _ (T84.setTop (mkF m 120 #[.val (.long x0), .second, .val (.long x1), .second, .val (.long x2), .second, .val (.int x3), .val (.int (own_f0_1 x0 x1 x2 x3)), .val (.int (x3 &&& (3 : Int32))), .val (.int (own_f0_2 x0 x1 x2 x3)), .val (.int (own_f0_3 x0 x1 x2 x3)), .val (.ref a5), .val (.ref a17), .unset] []))
                refine own_Goes.step (fun tq kq => XS.aload Y84.here hx rfl (hb hby at_120) rfl rfl kq) ?_
                show own_Goes _ _ _ _ _ _ _ (T84.setTop (mkF m 122 #[.val (.long x0), .second, .val (.long x1), .second, .val (.long x2), .second, .val (.int x3), .val (.int (own_f0_1 x0 x1 x2 x3)), .val (.int (x3 &&& (3 : Int32))), .val (.int (own_f0_2 x0 x1 x2 x3)), .val (.int (own_f0_3 x0 x1 x2 x3)), .val (.ref a5), .val (.ref a17), .unset] [(.ref a17)]))
                refine own_Goes.step (fun tq kq => XT.lloadN Y84.here hx rfl (hb hby at_122) rfl kq) ?_
                show own_Goes _ _ _ _ _ _ _ (T84.setTop (mkF m 123 #[.val (.long x0), .second, .val (.long x1), .second, .val (.long x2), .second, .val (.int x3), .val (.int (own_f0_1 x0 x1 x2 x3)), .val (.int (x3 &&& (3 : Int32))), .val (.int (own_f0_2 x0 x1 x2 x3)), .val (.int (own_f0_3 x0 x1 x2 x3)), .val (.ref a5), .val (.ref a17), .unset] [(.long x1), (.ref a17)]))
                refine own_Goes.step (fun tq kq => XS.aload Y84.here hx rfl (hb hby at_123) rfl rfl kq) ?_
                show own_Goes _ _ _ _ _ _ _ (T84.setTop (mkF m 125 #[.val (.long x0), .second, .val (.long x1), .second, .val (.long x2), .second, .val (.int x3), .val (.int (own_f0_1 x0 x1 x2 x3)), .val (.int (x3 &&& (3 : Int32))), .val (.int (own_f0_2 x0 x1 x2 x3)), .val (.int (own_f0_3 x0 x1 x2 x3)), .val (.ref a5), .val (.ref a17), .unset] [(.ref a5), (.long x1), (.ref a17)]))
                obtain ⟨w134, T134, L134, q134, Y134, st134⟩ := own_virt Y84 hx hZ rfl (own_W.exa B84) hown (own_at hw 39 rfl) (own_at hw 40 rfl) (own_at hw 42 rfl) (own_at hw 41 rfl) (own_at hw 21 rfl) (own_at hw 43 rfl) (by decide) (own_m5n l Z a0 hw [] a17 x1 a5 kA sA dA pA (own_setJ (fun _ => 0) 0 x0) (own_setJ (fun _ => 0) 0 (own_f1_size ((8 : Int64) + (((XT.ushr x3 (4 : Int32)) &&& (7 : Int32)).toInt64)) (own_f0_4 x0 x1 x2 x3))) (own_set (fun _ => 0) 0 (nar .boolean (own_f7 (own_f1_delete ((8 : Int64) + (((XT.ushr x3 (4 : Int32)) &&& (7 : Int32)).toInt64)) (own_f0_4 x0 x1 x2 x3))))) 1 fs84 mx84 am84 (-1 : Int32) 0 (own_f1_size ((8 : Int64) + (((XT.ushr x3 (4 : Int32)) &&& (7 : Int32)).toInt64)) (own_f0_4 x0 x1 x2 x3)) (own_f1_delete ((8 : Int64) + (((XT.ushr x3 (4 : Int32)) &&& (7 : Int32)).toInt64)) (own_f0_4 x0 x1 x2 x3)) n0 T84.heap B84 f85 f86 f87 (own_flag x0 x1 x2 x3) en_w en_kA en_sA en_dA en_pA (by decide)) (by decide) (W := 0) (by decide) (by decide) (by decide) (g := (mkF m 125 #[.val (.long x0), .second, .val (.long x1), .second, .val (.long x2), .second, .val (.int x3), .val (.int (own_f0_1 x0 x1 x2 x3)), .val (.int (x3 &&& (3 : Int32))), .val (.int (own_f0_2 x0 x1 x2 x3)), .val (.int (own_f0_3 x0 x1 x2 x3)), .val (.ref a5), .val (.ref a17), .unset] [(.ref a5), (.long x1), (.ref a17)])) rfl (by rw [hml]; rfl) (argsL := [(.long x1), (.ref a5)]) (rest := []) (lenOf pd_5 rfl) rfl (by show 2 * 0 + _ ≤ _; exact Nat.le_of_eq rfl) (hb hby at_125)
                obtain ⟨rfl, N134, K134, fs134, mx134, am134, -, B134⟩ := q134
                have Nn134 := Fr.app Nn84 N134
                have f135 := f85.keep K134
                have f136 := f86.keep K134 (own_nin4 en_w en_kA en_sA en_dA)
                have f137 := f87.keep K134 (own_nin4 en_w en_kA en_sA en_dA)
                refine own_Goes.step st134 ?_
                show own_Goes _ _ _ _ _ _ _ (T134.setTop (mkF m 128 #[.val (.long x0), .second, .val (.long x1), .second, .val (.long x2), .second, .val (.int x3), .val (.int (own_f0_1 x0 x1 x2 x3)), .val (.int (x3 &&& (3 : Int32))), .val (.int (own_f0_2 x0 x1 x2 x3)), .val (.int (own_f0_3 x0 x1 x2 x3)), .val (.ref a5), .val (.ref a17), .unset] []))
                have JS : ∀ (T : State) (lc : List Loc) (h : Heap) (X : Stand p l e room_1 s m #[(.long x0), (.long x1), (.long x2), (.int x3)] below meth c T lc 7 77) (eT : T.heap = h) (NN : Fr n0 lc) (iA : Addr) (S : Nat → Int32) (ixn : Nat) (Sz : Nat → Int64) (D : Nat → Int32) (fs : Int64) (mx am ix la : Int32) (BB : own_W Z h n0 a17 kA sA dA pA (.ref iA) (own_setJ (own_setJ (own_setJ (fun _ => 0) 0 x0) 1 x1) 2 x2) Sz D 2 fs mx am ix la) (II : own_I Z h n0 a17 kA sA dA pA iA S) (IV : own_Inv (own_setJ (own_setJ (own_setJ (fun _ => 0) 0 x0) 1 x1) 2 x2) 2 S ixn), own_Goes p e below s (own_F0 Z x0 x1 x2 x3 n0 h0) room_1.cells room_1.slots (T.setTop (mkF m 196 #[.val (.long x0), .second, .val (.long x1), .second, .val (.long x2), .second, .val (.int x3), .val (.int (own_f0_1 x0 x1 x2 x3)), .val (.int (x3 &&& (3 : Int32))), .val (.int (own_f0_2 x0 x1 x2 x3)), .val (.int (own_f0_3 x0 x1 x2 x3)), .val (.ref a5), .val (.ref a17), .val (.int (1 : Int32))] [])) := by
                  intro T lc h X eT NN iA S ixn Sz D fs mx am ix la BB II IV
                  refine own_Goes.step (fun tq kq => XS.iload X.here hx rfl (hb hby at_196) rfl kq) ?_
                  show own_Goes _ _ _ _ _ _ _ (T.setTop (mkF m 198 #[.val (.long x0), .second, .val (.long x1), .second, .val (.long x2), .second, .val (.int x3), .val (.int (own_f0_1 x0 x1 x2 x3)), .val (.int (x3 &&& (3 : Int32))), .val (.int (own_f0_2 x0 x1 x2 x3)), .val (.int (own_f0_3 x0 x1 x2 x3)), .val (.ref a5), .val (.ref a17), .val (.int (1 : Int32))] [(.int (1 : Int32))]))
                  refine own_Goes.step (fun tq kq => XS.aload X.here hx rfl (hb hby at_198) rfl rfl kq) ?_
                  show own_Goes _ _ _ _ _ _ _ (T.setTop (mkF m 200 #[.val (.long x0), .second, .val (.long x1), .second, .val (.long x2), .second, .val (.int x3), .val (.int (own_f0_1 x0 x1 x2 x3)), .val (.int (x3 &&& (3 : Int32))), .val (.int (own_f0_2 x0 x1 x2 x3)), .val (.int (own_f0_3 x0 x1 x2 x3)), .val (.ref a5), .val (.ref a17), .val (.int (1 : Int32))] [(.ref a17), (.int (1 : Int32))]))
                  obtain ⟨w138, T138, L138, q138, Y138, st138⟩ := own_virt X hx hZ eT (own_W.exa BB) hown (own_at hw 94 rfl) (own_at hw 95 rfl) (own_at hw 97 rfl) (own_at hw 96 rfl) (own_at hw 21 rfl) (own_at hw 98 rfl) (by decide) (own_m14 l Z a0 hw [] a17 (Int32.ofNat 2) h (own_W.count BB) ) (by decide) (W := 1) (by decide) (by decide) (by decide) (g := (mkF m 200 #[.val (.long x0), .second, .val (.long x1), .second, .val (.long x2), .second, .val (.int x3), .val (.int (own_f0_1 x0 x1 x2 x3)), .val (.int (x3 &&& (3 : Int32))), .val (.int (own_f0_2 x0 x1 x2 x3)), .val (.int (own_f0_3 x0 x1 x2 x3)), .val (.ref a5), .val (.ref a17), .val (.int (1 : Int32))] [(.ref a17), (.int (1 : Int32))])) rfl (by rw [hml]; rfl) (argsL := []) (rest := [(.int (1 : Int32))]) (lenOf pd_14 rfl) rfl (by show 2 * 0 + _ ≤ _; exact Nat.le_of_eq rfl) (hb hby at_200)
                  obtain ⟨e138, X138⟩ := own_clean q138 Y138 rfl rfl
                  obtain ⟨rfl, -, -⟩ := q138
                  refine own_Goes.step st138 ?_
                  show own_Goes _ _ _ _ _ _ _ (T138.setTop (mkF m 203 #[.val (.long x0), .second, .val (.long x1), .second, .val (.long x2), .second, .val (.int x3), .val (.int (own_f0_1 x0 x1 x2 x3)), .val (.int (x3 &&& (3 : Int32))), .val (.int (own_f0_2 x0 x1 x2 x3)), .val (.int (own_f0_3 x0 x1 x2 x3)), .val (.ref a5), .val (.ref a17), .val (.int (1 : Int32))] [(.int (own_f14 (Int32.ofNat 2))), (.int (1 : Int32))]))
                  refine own_Goes.step (fun tq kq => XS.iload X138.here hx rfl (hb hby at_203) rfl kq) ?_
                  show own_Goes _ _ _ _ _ _ _ (T138.setTop (mkF m 205 #[.val (.long x0), .second, .val (.long x1), .second, .val (.long x2), .second, .val (.int x3), .val (.int (own_f0_1 x0 x1 x2 x3)), .val (.int (x3 &&& (3 : Int32))), .val (.int (own_f0_2 x0 x1 x2 x3)), .val (.int (own_f0_3 x0 x1 x2 x3)), .val (.ref a5), .val (.ref a17), .val (.int (1 : Int32))] [(.int (own_f0_1 x0 x1 x2 x3)), (.int (own_f14 (Int32.ofNat 2))), (.int (1 : Int32))]))
                  have J146 : own_Goes p e below s (own_F0 Z x0 x1 x2 x3 n0 h0) room_1.cells room_1.slots (T138.setTop (mkF m 213 #[.val (.long x0), .second, .val (.long x1), .second, .val (.long x2), .second, .val (.int x3), .val (.int (own_f0_1 x0 x1 x2 x3)), .val (.int (x3 &&& (3 : Int32))), .val (.int (own_f0_2 x0 x1 x2 x3)), .val (.int (own_f0_3 x0 x1 x2 x3)), .val (.ref a5), .val (.ref a17), .val (.int (1 : Int32))] [(.int (own_f0_5 x0 x1 x2 x3)), (.int (own_f14 (Int32.ofNat 2))), (.int (1 : Int32))])) := by
                    refine own_Goes.step (fun tq kq => XS.icmpNo X138.here hx rfl (hb hby at_213) rfl (XT.ii_ne_f (own_emp2 x0 x1 x2 x3 hc88)) kq) ?_
                    show own_Goes _ _ _ _ _ _ _ (T138.setTop (mkF m 216 #[.val (.long x0), .second, .val (.long x1), .second, .val (.long x2), .second, .val (.int x3), .val (.int (own_f0_1 x0 x1 x2 x3)), .val (.int (x3 &&& (3 : Int32))), .val (.int (own_f0_2 x0 x1 x2 x3)), .val (.int (own_f0_3 x0 x1 x2 x3)), .val (.ref a5), .val (.ref a17), .val (.int (1 : Int32))] [(.int (1 : Int32))]))
                    refine own_Goes.step (fun tq kq => XT.iconstV X138.here hx rfl (1 : Int32) (hb hby at_216) (by decide) kq) ?_
                    show own_Goes _ _ _ _ _ _ _ (T138.setTop (mkF m 217 #[.val (.long x0), .second, .val (.long x1), .second, .val (.long x2), .second, .val (.int x3), .val (.int (own_f0_1 x0 x1 x2 x3)), .val (.int (x3 &&& (3 : Int32))), .val (.int (own_f0_2 x0 x1 x2 x3)), .val (.int (own_f0_3 x0 x1 x2 x3)), .val (.ref a5), .val (.ref a17), .val (.int (1 : Int32))] [(.int (1 : Int32)), (.int (1 : Int32))]))
                    refine own_Goes.step (fun tq kq => XS.goto X138.here hx rfl (pc0 := 217) (pc' := 221) rfl (hb hby at_217) (by decide) (by decide) kq) ?_
                    show own_Goes _ _ _ _ _ _ _ (T138.setTop (mkF m 221 #[.val (.long x0), .second, .val (.long x1), .second, .val (.long x2), .second, .val (.int x3), .val (.int (own_f0_1 x0 x1 x2 x3)), .val (.int (x3 &&& (3 : Int32))), .val (.int (own_f0_2 x0 x1 x2 x3)), .val (.int (own_f0_3 x0 x1 x2 x3)), .val (.ref a5), .val (.ref a17), .val (.int (1 : Int32))] [(.int (1 : Int32)), (.int (1 : Int32))]))
                    refine own_Goes.step (fun tq kq => XS.iand X138.here hx rfl (hb hby at_221) rfl kq) ?_
                    show own_Goes _ _ _ _ _ _ _ (T138.setTop (mkF m 222 #[.val (.long x0), .second, .val (.long x1), .second, .val (.long x2), .second, .val (.int x3), .val (.int (own_f0_1 x0 x1 x2 x3)), .val (.int (x3 &&& (3 : Int32))), .val (.int (own_f0_2 x0 x1 x2 x3)), .val (.int (own_f0_3 x0 x1 x2 x3)), .val (.ref a5), .val (.ref a17), .val (.int (1 : Int32))] [(.int (1 : Int32))]))
                    refine own_Goes.step (fun tq kq => XS.istore X138.here hx rfl (hb hby at_222) rfl (l' := #[.val (.long x0), .second, .val (.long x1), .second, .val (.long x2), .second, .val (.int x3), .val (.int (own_f0_1 x0 x1 x2 x3)), .val (.int (x3 &&& (3 : Int32))), .val (.int (own_f0_2 x0 x1 x2 x3)), .val (.int (own_f0_3 x0 x1 x2 x3)), .val (.ref a5), .val (.ref a17), .val (.int (1 : Int32))]) rfl kq) ?_
                    show own_Goes _ _ _ _ _ _ _ (T138.setTop (mkF m 224 #[.val (.long x0), .second, .val (.long x1), .second, .val (.long x2), .second, .val (.int x3), .val (.int (own_f0_1 x0 x1 x2 x3)), .val (.int (x3 &&& (3 : Int32))), .val (.int (own_f0_2 x0 x1 x2 x3)), .val (.int (own_f0_3 x0 x1 x2 x3)), .val (.ref a5), .val (.ref a17), .val (.int (1 : Int32))] []))
                    refine own_Goes.step (fun tq kq => XS.iload X138.here hx rfl (hb hby at_224) rfl kq) ?_
                    show own_Goes _ _ _ _ _ _ _ (T138.setTop (mkF m 226 #[.val (.long x0), .second, .val (.long x1), .second, .val (.long x2), .second, .val (.int x3), .val (.int (own_f0_1 x0 x1 x2 x3)), .val (.int (x3 &&& (3 : Int32))), .val (.int (own_f0_2 x0 x1 x2 x3)), .val (.int (own_f0_3 x0 x1 x2 x3)), .val (.ref a5), .val (.ref a17), .val (.int (1 : Int32))] [(.int (1 : Int32))]))
                    refine own_Goes.step (fun tq kq => XS.aload X138.here hx rfl (hb hby at_226) rfl rfl kq) ?_
                    show own_Goes _ _ _ _ _ _ _ (T138.setTop (mkF m 228 #[.val (.long x0), .second, .val (.long x1), .second, .val (.long x2), .second, .val (.int x3), .val (.int (own_f0_1 x0 x1 x2 x3)), .val (.int (x3 &&& (3 : Int32))), .val (.int (own_f0_2 x0 x1 x2 x3)), .val (.int (own_f0_3 x0 x1 x2 x3)), .val (.ref a5), .val (.ref a17), .val (.int (1 : Int32))] [(.ref a17), (.int (1 : Int32))]))
                    refine own_Goes.step (fun tq kq => XT.lloadN X138.here hx rfl (hb hby at_228) rfl kq) ?_
                    show own_Goes _ _ _ _ _ _ _ (T138.setTop (mkF m 229 #[.val (.long x0), .second, .val (.long x1), .second, .val (.long x2), .second, .val (.int x3), .val (.int (own_f0_1 x0 x1 x2 x3)), .val (.int (x3 &&& (3 : Int32))), .val (.int (own_f0_2 x0 x1 x2 x3)), .val (.int (own_f0_3 x0 x1 x2 x3)), .val (.ref a5), .val (.ref a17), .val (.int (1 : Int32))] [(.long x0), (.ref a17), (.int (1 : Int32))]))
                    obtain ⟨t140, ht140, hm140⟩ := IV.find (by decide) x0
                    have hr140 := IV.says hm140
                    obtain ⟨w140, T140, L140, q140, Y140, st140⟩ := own_virt X138 hx hZ e138 (own_W.exa BB) hown (own_at hw 64 rfl) (own_at hw 65 rfl) (own_at hw 67 rfl) (own_at hw 66 rfl) (own_at hw 21 rfl) (own_at hw 68 rfl) (by decide) (own_m8s l Z a0 hw [] a17 x0 kA sA dA pA (own_setJ (own_setJ (own_setJ (fun _ => 0) 0 x0) 1 x1) 2 x2) Sz D 2 fs mx am la ix iA S t140 (own_mem (own_setJ (own_setJ (own_setJ (fun _ => 0) 0 x0) 1 x1) 2 x2) 2 x0) n0 h BB II (IV.1.ok (by decide)) hm140 ht140 hr140) (by decide) (W := 1) (by decide) (by decide) (by decide) (g := (mkF m 229 #[.val (.long x0), .second, .val (.long x1), .second, .val (.long x2), .second, .val (.int x3), .val (.int (own_f0_1 x0 x1 x2 x3)), .val (.int (x3 &&& (3 : Int32))), .val (.int (own_f0_2 x0 x1 x2 x3)), .val (.int (own_f0_3 x0 x1 x2 x3)), .val (.ref a5), .val (.ref a17), .val (.int (1 : Int32))] [(.long x0), (.ref a17), (.int (1 : Int32))])) rfl (by rw [hml]; rfl) (argsL := [(.long x0)]) (rest := [(.int (1 : Int32))]) (lenOf pd_8 rfl) rfl (by show 2 * 0 + _ ≤ _; exact Nat.le_of_eq rfl) (hb hby at_229)
                    obtain ⟨e140, X140⟩ := own_clean q140 Y140 rfl rfl
                    obtain ⟨rfl, -, -⟩ := q140
                    refine own_Goes.step st140 ?_
                    show own_Goes _ _ _ _ _ _ _ (T140.setTop (mkF m 232 #[.val (.long x0), .second, .val (.long x1), .second, .val (.long x2), .second, .val (.int x3), .val (.int (own_f0_1 x0 x1 x2 x3)), .val (.int (x3 &&& (3 : Int32))), .val (.int (own_f0_2 x0 x1 x2 x3)), .val (.int (own_f0_3 x0 x1 x2 x3)), .val (.ref a5), .val (.ref a17), .val (.int (1 : Int32))] [(.int (own_bi (own_mem (own_setJ (own_setJ (own_setJ (fun _ => 0) 0 x0) 1 x1) 2 x2) 2 x0))), (.int (1 : Int32))]))
                    refine own_Goes.step (fun tq kq => XT.lloadN X140.here hx rfl (hb hby at_232) rfl kq) ?_
                    show own_Goes _ _ _ _ _ _ _ (T140.setTop (mkF m 233 #[.val (.long x0), .second, .val (.long x1), .second, .val (.long x2), .second, .val (.int x3), .val (.int (own_f0_1 x0 x1 x2 x3)), .val (.int (x3 &&& (3 : Int32))), .val (.int (own_f0_2 x0 x1 x2 x3)), .val (.int (own_f0_3 x0 x1 x2 x3)), .val (.ref a5), .val (.ref a17), .val (.int (1 : Int32))] [(.long x0), (.int (own_bi (own_mem (own_setJ (own_setJ (own_setJ (fun _ => 0) 0 x0) 1 x1) 2 x2) 2 x0))), (.int (1 : Int32))]))
                    refine own_Goes.step (fun tq kq => XT.lloadN X140.here hx rfl (hb hby at_233) rfl kq) ?_
                    show own_Goes _ _ _ _ _ _ _ (T140.setTop (mkF m 234 #[.val (.long x0), .second, .val (.long x1), .second, .val (.long x2), .second, .val (.int x3), .val (.int (own_f0_1 x0 x1 x2 x3)), .val (.int (x3 &&& (3 : Int32))), .val (.int (own_f0_2 x0 x1 x2 x3)), .val (.int (own_f0_3 x0 x1 x2 x3)), .val (.ref a5), .val (.ref a17), .val (.int (1 : Int32))] [(.long x0), (.long x0), (.int (own_bi (own_mem (own_setJ (own_setJ (own_setJ (fun _ => 0) 0 x0) 1 x1) 2 x2) 2 x0))), (.int (1 : Int32))]))
                    refine own_Goes.step (fun tq kq => XT.lloadN X140.here hx rfl (hb hby at_234) rfl kq) ?_
                    show own_Goes _ _ _ _ _ _ _ (T140.setTop (mkF m 235 #[.val (.long x0), .second, .val (.long x1), .second, .val (.long x2), .second, .val (.int x3), .val (.int (own_f0_1 x0 x1 x2 x3)), .val (.int (x3 &&& (3 : Int32))), .val (.int (own_f0_2 x0 x1 x2 x3)), .val (.int (own_f0_3 x0 x1 x2 x3)), .val (.ref a5), .val (.ref a17), .val (.int (1 : Int32))] [(.long x1), (.long x0), (.long x0), (.int (own_bi (own_mem (own_setJ (own_setJ (own_setJ (fun _ => 0) 0 x0) 1 x1) 2 x2) 2 x0))), (.int (1 : Int32))]))
                    refine own_Goes.step (fun tq kq => XS.iload X140.here hx rfl (hb hby at_235) rfl kq) ?_
                    show own_Goes _ _ _ _ _ _ _ (T140.setTop (mkF m 237 #[.val (.long x0), .second, .val (.long x1), .second, .val (.long x2), .second, .val (.int x3), .val (.int (own_f0_1 x0 x1 x2 x3)), .val (.int (x3 &&& (3 : Int32))), .val (.int (own_f0_2 x0 x1 x2 x3)), .val (.int (own_f0_3 x0 x1 x2 x3)), .val (.ref a5), .val (.ref a17), .val (.int (1 : Int32))] [(.int (own_f0_1 x0 x1 x2 x3)), (.long x1), (.long x0), (.long x0), (.int (own_bi (own_mem (own_setJ (own_setJ (own_setJ (fun _ => 0) 0 x0) 1 x1) 2 x2) 2 x0))), (.int (1 : Int32))]))
                    obtain ⟨w141, T141, L141, q141, Y141, st141⟩ := own_stat X140 hx hZ e140 hown (own_at hw 99 rfl) (own_at hw 100 rfl) (own_at hw 101 rfl) (own_at hw 102 rfl) (by decide) (own_m15 l Z a0 hw [] x0 x0 x1 (own_f0_1 x0 x1 x2 x3) h ) (by decide) (W := 2) (by decide) (by decide) (by decide) (g := (mkF m 237 #[.val (.long x0), .second, .val (.long x1), .second, .val (.long x2), .second, .val (.int x3), .val (.int (own_f0_1 x0 x1 x2 x3)), .val (.int (x3 &&& (3 : Int32))), .val (.int (own_f0_2 x0 x1 x2 x3)), .val (.int (own_f0_3 x0 x1 x2 x3)), .val (.ref a5), .val (.ref a17), .val (.int (1 : Int32))] [(.int (own_f0_1 x0 x1 x2 x3)), (.long x1), (.long x0), (.long x0), (.int (own_bi (own_mem (own_setJ (own_setJ (own_setJ (fun _ => 0) 0 x0) 1 x1) 2 x2) 2 x0))), (.int (1 : Int32))])) rfl (by rw [hml]; rfl) (argsL := [(.long x0), (.long x0), (.long x1), (.int (own_f0_1 x0 x1 x2 x3))]) (rest := [(.int (own_bi (own_mem (own_setJ (own_setJ (own_setJ (fun _ => 0) 0 x0) 1 x1) 2 x2) 2 x0))), (.int (1 : Int32))]) (lenOf pd_15 rfl) rfl (by show 2 * 0 + _ ≤ _; exact Nat.le_of_eq rfl) (hb hby at_237)
                    obtain ⟨e141, X141⟩ := own_clean q141 Y141 rfl rfl
                    obtain ⟨rfl, -, -⟩ := q141
                    refine own_Goes.step st141 ?_
                    show own_Goes _ _ _ _ _ _ _ (T141.setTop (mkF m 240 #[.val (.long x0), .second, .val (.long x1), .second, .val (.long x2), .second, .val (.int x3), .val (.int (own_f0_1 x0 x1 x2 x3)), .val (.int (x3 &&& (3 : Int32))), .val (.int (own_f0_2 x0 x1 x2 x3)), .val (.int (own_f0_3 x0 x1 x2 x3)), .val (.ref a5), .val (.ref a17), .val (.int (1 : Int32))] [(.int (own_f15 x0 x0 x1 (own_f0_1 x0 x1 x2 x3))), (.int (own_bi (own_mem (own_setJ (own_setJ (own_setJ (fun _ => 0) 0 x0) 1 x1) 2 x2) 2 x0))), (.int (1 : Int32))]))
                    refine own_Goes.step (fun tq kq => XS.icmpNo X141.here hx rfl (hb hby at_240) rfl (XT.ii_ne_f (own_held2 rfl rfl hc88)) kq) ?_
                    show own_Goes _ _ _ _ _ _ _ (T141.setTop (mkF m 243 #[.val (.long x0), .second, .val (.long x1), .second, .val (.long x2), .second, .val (.int x3), .val (.int (own_f0_1 x0 x1 x2 x3)), .val (.int (x3 &&& (3 : Int32))), .val (.int (own_f0_2 x0 x1 x2 x3)), .val (.int (own_f0_3 x0 x1 x2 x3)), .val (.ref a5), .val (.ref a17), .val (.int (1 : Int32))] [(.int (1 : Int32))]))
                    refine own_Goes.step (fun tq kq => XT.iconstV X141.here hx rfl (1 : Int32) (hb hby at_243) (by decide) kq) ?_
                    show own_Goes _ _ _ _ _ _ _ (T141.setTop (mkF m 244 #[.val (.long x0), .second, .val (.long x1), .second, .val (.long x2), .second, .val (.int x3), .val (.int (own_f0_1 x0 x1 x2 x3)), .val (.int (x3 &&& (3 : Int32))), .val (.int (own_f0_2 x0 x1 x2 x3)), .val (.int (own_f0_3 x0 x1 x2 x3)), .val (.ref a5), .val (.ref a17), .val (.int (1 : Int32))] [(.int (1 : Int32)), (.int (1 : Int32))]))
                    refine own_Goes.step (fun tq kq => XS.goto X141.here hx rfl (pc0 := 244) (pc' := 248) rfl (hb hby at_244) (by decide) (by decide) kq) ?_
                    show own_Goes _ _ _ _ _ _ _ (T141.setTop (mkF m 248 #[.val (.long x0), .second, .val (.long x1), .second, .val (.long x2), .second, .val (.int x3), .val (.int (own_f0_1 x0 x1 x2 x3)), .val (.int (x3 &&& (3 : Int32))), .val (.int (own_f0_2 x0 x1 x2 x3)), .val (.int (own_f0_3 x0 x1 x2 x3)), .val (.ref a5), .val (.ref a17), .val (.int (1 : Int32))] [(.int (1 : Int32)), (.int (1 : Int32))]))
                    refine own_Goes.step (fun tq kq => XS.iand X141.here hx rfl (hb hby at_248) rfl kq) ?_
                    show own_Goes _ _ _ _ _ _ _ (T141.setTop (mkF m 249 #[.val (.long x0), .second, .val (.long x1), .second, .val (.long x2), .second, .val (.int x3), .val (.int (own_f0_1 x0 x1 x2 x3)), .val (.int (x3 &&& (3 : Int32))), .val (.int (own_f0_2 x0 x1 x2 x3)), .val (.int (own_f0_3 x0 x1 x2 x3)), .val (.ref a5), .val (.ref a17), .val (.int (1 : Int32))] [(.int (1 : Int32))]))
                    refine own_Goes.step (fun tq kq => XS.istore X141.here hx rfl (hb hby at_249) rfl (l' := #[.val (.long x0), .second, .val (.long x1), .second, .val (.long x2), .second, .val (.int x3), .val (.int (own_f0_1 x0 x1 x2 x3)), .val (.int (x3 &&& (3 : Int32))), .val (.int (own_f0_2 x0 x1 x2 x3)), .val (.int (own_f0_3 x0 x1 x2 x3)), .val (.ref a5), .val (.ref a17), .val (.int (1 : Int32))]) rfl kq) ?_
                    show own_Goes _ _ _ _ _ _ _ (T141.setTop (mkF m 251 #[.val (.long x0), .second, .val (.long x1), .second, .val (.long x2), .second, .val (.int x3), .val (.int (own_f0_1 x0 x1 x2 x3)), .val (.int (x3 &&& (3 : Int32))), .val (.int (own_f0_2 x0 x1 x2 x3)), .val (.int (own_f0_3 x0 x1 x2 x3)), .val (.ref a5), .val (.ref a17), .val (.int (1 : Int32))] []))
                    refine own_Goes.step (fun tq kq => XS.iload X141.here hx rfl (hb hby at_251) rfl kq) ?_
                    show own_Goes _ _ _ _ _ _ _ (T141.setTop (mkF m 253 #[.val (.long x0), .second, .val (.long x1), .second, .val (.long x2), .second, .val (.int x3), .val (.int (own_f0_1 x0 x1 x2 x3)), .val (.int (x3 &&& (3 : Int32))), .val (.int (own_f0_2 x0 x1 x2 x3)), .val (.int (own_f0_3 x0 x1 x2 x3)), .val (.ref a5), .val (.ref a17), .val (.int (1 : Int32))] [(.int (1 : Int32))]))
                    refine own_Goes.step (fun tq kq => XS.aload X141.here hx rfl (hb hby at_253) rfl rfl kq) ?_
                    show own_Goes _ _ _ _ _ _ _ (T141.setTop (mkF m 255 #[.val (.long x0), .second, .val (.long x1), .second, .val (.long x2), .second, .val (.int x3), .val (.int (own_f0_1 x0 x1 x2 x3)), .val (.int (x3 &&& (3 : Int32))), .val (.int (own_f0_2 x0 x1 x2 x3)), .val (.int (own_f0_3 x0 x1 x2 x3)), .val (.ref a5), .val (.ref a17), .val (.int (1 : Int32))] [(.ref a17), (.int (1 : Int32))]))
                    refine own_Goes.step (fun tq kq => XT.lloadN X141.here hx rfl (hb hby at_255) rfl kq) ?_
                    show own_Goes _ _ _ _ _ _ _ (T141.setTop (mkF m 256 #[.val (.long x0), .second, .val (.long x1), .second, .val (.long x2), .second, .val (.int x3), .val (.int (own_f0_1 x0 x1 x2 x3)), .val (.int (x3 &&& (3 : Int32))), .val (.int (own_f0_2 x0 x1 x2 x3)), .val (.int (own_f0_3 x0 x1 x2 x3)), .val (.ref a5), .val (.ref a17), .val (.int (1 : Int32))] [(.long x1), (.ref a17), (.int (1 : Int32))]))
                    obtain ⟨t142, ht142, hm142⟩ := IV.find (by decide) x1
                    have hr142 := IV.says hm142
                    obtain ⟨w142, T142, L142, q142, Y142, st142⟩ := own_virt X141 hx hZ e141 (own_W.exa BB) hown (own_at hw 64 rfl) (own_at hw 65 rfl) (own_at hw 67 rfl) (own_at hw 66 rfl) (own_at hw 21 rfl) (own_at hw 68 rfl) (by decide) (own_m8s l Z a0 hw [] a17 x1 kA sA dA pA (own_setJ (own_setJ (own_setJ (fun _ => 0) 0 x0) 1 x1) 2 x2) Sz D 2 fs mx am la ix iA S t142 (own_mem (own_setJ (own_setJ (own_setJ (fun _ => 0) 0 x0) 1 x1) 2 x2) 2 x1) n0 h BB II (IV.1.ok (by decide)) hm142 ht142 hr142) (by decide) (W := 1) (by decide) (by decide) (by decide) (g := (mkF m 256 #[.val (.long x0), .second, .val (.long x1), .second, .val (.long x2), .second, .val (.int x3), .val (.int (own_f0_1 x0 x1 x2 x3)), .val (.int (x3 &&& (3 : Int32))), .val (.int (own_f0_2 x0 x1 x2 x3)), .val (.int (own_f0_3 x0 x1 x2 x3)), .val (.ref a5), .val (.ref a17), .val (.int (1 : Int32))] [(.long x1), (.ref a17), (.int (1 : Int32))])) rfl (by rw [hml]; rfl) (argsL := [(.long x1)]) (rest := [(.int (1 : Int32))]) (lenOf pd_8 rfl) rfl (by show 2 * 0 + _ ≤ _; exact Nat.le_of_eq rfl) (hb hby at_256)
                    obtain ⟨e142, X142⟩ := own_clean q142 Y142 rfl rfl
                    obtain ⟨rfl, -, -⟩ := q142
                    refine own_Goes.step st142 ?_
                    show own_Goes _ _ _ _ _ _ _ (T142.setTop (mkF m 259 #[.val (.long x0), .second, .val (.long x1), .second, .val (.long x2), .second, .val (.int x3), .val (.int (own_f0_1 x0 x1 x2 x3)), .val (.int (x3 &&& (3 : Int32))), .val (.int (own_f0_2 x0 x1 x2 x3)), .val (.int (own_f0_3 x0 x1 x2 x3)), .val (.ref a5), .val (.ref a17), .val (.int (1 : Int32))] [(.int (own_bi (own_mem (own_setJ (own_setJ (own_setJ (fun _ => 0) 0 x0) 1 x1) 2 x2) 2 x1))), (.int (1 : Int32))]))
                    refine own_Goes.step (fun tq kq => XT.lloadN X142.here hx rfl (hb hby at_259) rfl kq) ?_
                    show own_Goes _ _ _ _ _ _ _ (T142.setTop (mkF m 260 #[.val (.long x0), .second, .val (.long x1), .second, .val (.long x2), .second, .val (.int x3), .val (.int (own_f0_1 x0 x1 x2 x3)), .val (.int (x3 &&& (3 : Int32))), .val (.int (own_f0_2 x0 x1 x2 x3)), .val (.int (own_f0_3 x0 x1 x2 x3)), .val (.ref a5), .val (.ref a17), .val (.int (1 : Int32))] [(.long x1), (.int (own_bi (own_mem (own_setJ (own_setJ (own_setJ (fun _ => 0) 0 x0) 1 x1) 2 x2) 2 x1))), (.int (1 : Int32))]))
                    refine own_Goes.step (fun tq kq => XT.lloadN X142.here hx rfl (hb hby at_260) rfl kq) ?_
                    show own_Goes _ _ _ _ _ _ _ (T142.setTop (mkF m 261 #[.val (.long x0), .second, .val (.long x1), .second, .val (.long x2), .second, .val (.int x3), .val (.int (own_f0_1 x0 x1 x2 x3)), .val (.int (x3 &&& (3 : Int32))), .val (.int (own_f0_2 x0 x1 x2 x3)), .val (.int (own_f0_3 x0 x1 x2 x3)), .val (.ref a5), .val (.ref a17), .val (.int (1 : Int32))] [(.long x0), (.long x1), (.int (own_bi (own_mem (own_setJ (own_setJ (own_setJ (fun _ => 0) 0 x0) 1 x1) 2 x2) 2 x1))), (.int (1 : Int32))]))
                    refine own_Goes.step (fun tq kq => XT.lloadN X142.here hx rfl (hb hby at_261) rfl kq) ?_
                    show own_Goes _ _ _ _ _ _ _ (T142.setTop (mkF m 262 #[.val (.long x0), .second, .val (.long x1), .second, .val (.long x2), .second, .val (.int x3), .val (.int (own_f0_1 x0 x1 x2 x3)), .val (.int (x3 &&& (3 : Int32))), .val (.int (own_f0_2 x0 x1 x2 x3)), .val (.int (own_f0_3 x0 x1 x2 x3)), .val (.ref a5), .val (.ref a17), .val (.int (1 : Int32))] [(.long x1), (.long x0), (.long x1), (.int (own_bi (own_mem (own_setJ (own_setJ (own_setJ (fun _ => 0) 0 x0) 1 x1) 2 x2) 2 x1))), (.int (1 : Int32))]))
                    refine own_Goes.step (fun tq kq => XS.iload X142.here hx rfl (hb hby at_262) rfl kq) ?_
                    show own_Goes _ _ _ _ _ _ _ (T142.setTop (mkF m 264 #[.val (.long x0), .second, .val (.long x1), .second, .val (.long x2), .second, .val (.int x3), .val (.int (own_f0_1 x0 x1 x2 x3)), .val (.int (x3 &&& (3 : Int32))), .val (.int (own_f0_2 x0 x1 x2 x3)), .val (.int (own_f0_3 x0 x1 x2 x3)), .val (.ref a5), .val (.ref a17), .val (.int (1 : Int32))] [(.int (own_f0_1 x0 x1 x2 x3)), (.long x1), (.long x0), (.long x1), (.int (own_bi (own_mem (own_setJ (own_setJ (own_setJ (fun _ => 0) 0 x0) 1 x1) 2 x2) 2 x1))), (.int (1 : Int32))]))
                    obtain ⟨w143, T143, L143, q143, Y143, st143⟩ := own_stat X142 hx hZ e142 hown (own_at hw 99 rfl) (own_at hw 100 rfl) (own_at hw 101 rfl) (own_at hw 102 rfl) (by decide) (own_m15 l Z a0 hw [] x1 x0 x1 (own_f0_1 x0 x1 x2 x3) h ) (by decide) (W := 2) (by decide) (by decide) (by decide) (g := (mkF m 264 #[.val (.long x0), .second, .val (.long x1), .second, .val (.long x2), .second, .val (.int x3), .val (.int (own_f0_1 x0 x1 x2 x3)), .val (.int (x3 &&& (3 : Int32))), .val (.int (own_f0_2 x0 x1 x2 x3)), .val (.int (own_f0_3 x0 x1 x2 x3)), .val (.ref a5), .val (.ref a17), .val (.int (1 : Int32))] [(.int (own_f0_1 x0 x1 x2 x3)), (.long x1), (.long x0), (.long x1), (.int (own_bi (own_mem (own_setJ (own_setJ (own_setJ (fun _ => 0) 0 x0) 1 x1) 2 x2) 2 x1))), (.int (1 : Int32))])) rfl (by rw [hml]; rfl) (argsL := [(.long x1), (.long x0), (.long x1), (.int (own_f0_1 x0 x1 x2 x3))]) (rest := [(.int (own_bi (own_mem (own_setJ (own_setJ (own_setJ (fun _ => 0) 0 x0) 1 x1) 2 x2) 2 x1))), (.int (1 : Int32))]) (lenOf pd_15 rfl) rfl (by show 2 * 0 + _ ≤ _; exact Nat.le_of_eq rfl) (hb hby at_264)
                    obtain ⟨e143, X143⟩ := own_clean q143 Y143 rfl rfl
                    obtain ⟨rfl, -, -⟩ := q143
                    refine own_Goes.step st143 ?_
                    show own_Goes _ _ _ _ _ _ _ (T143.setTop (mkF m 267 #[.val (.long x0), .second, .val (.long x1), .second, .val (.long x2), .second, .val (.int x3), .val (.int (own_f0_1 x0 x1 x2 x3)), .val (.int (x3 &&& (3 : Int32))), .val (.int (own_f0_2 x0 x1 x2 x3)), .val (.int (own_f0_3 x0 x1 x2 x3)), .val (.ref a5), .val (.ref a17), .val (.int (1 : Int32))] [(.int (own_f15 x1 x0 x1 (own_f0_1 x0 x1 x2 x3))), (.int (own_bi (own_mem (own_setJ (own_setJ (own_setJ (fun _ => 0) 0 x0) 1 x1) 2 x2) 2 x1))), (.int (1 : Int32))]))
                    refine own_Goes.step (fun tq kq => XS.icmpNo X143.here hx rfl (hb hby at_267) rfl (XT.ii_ne_f (own_held2 rfl rfl hc88)) kq) ?_
                    show own_Goes _ _ _ _ _ _ _ (T143.setTop (mkF m 270 #[.val (.long x0), .second, .val (.long x1), .second, .val (.long x2), .second, .val (.int x3), .val (.int (own_f0_1 x0 x1 x2 x3)), .val (.int (x3 &&& (3 : Int32))), .val (.int (own_f0_2 x0 x1 x2 x3)), .val (.int (own_f0_3 x0 x1 x2 x3)), .val (.ref a5), .val (.ref a17), .val (.int (1 : Int32))] [(.int (1 : Int32))]))
                    refine own_Goes.step (fun tq kq => XT.iconstV X143.here hx rfl (1 : Int32) (hb hby at_270) (by decide) kq) ?_
                    show own_Goes _ _ _ _ _ _ _ (T143.setTop (mkF m 271 #[.val (.long x0), .second, .val (.long x1), .second, .val (.long x2), .second, .val (.int x3), .val (.int (own_f0_1 x0 x1 x2 x3)), .val (.int (x3 &&& (3 : Int32))), .val (.int (own_f0_2 x0 x1 x2 x3)), .val (.int (own_f0_3 x0 x1 x2 x3)), .val (.ref a5), .val (.ref a17), .val (.int (1 : Int32))] [(.int (1 : Int32)), (.int (1 : Int32))]))
                    refine own_Goes.step (fun tq kq => XS.goto X143.here hx rfl (pc0 := 271) (pc' := 275) rfl (hb hby at_271) (by decide) (by decide) kq) ?_
                    show own_Goes _ _ _ _ _ _ _ (T143.setTop (mkF m 275 #[.val (.long x0), .second, .val (.long x1), .second, .val (.long x2), .second, .val (.int x3), .val (.int (own_f0_1 x0 x1 x2 x3)), .val (.int (x3 &&& (3 : Int32))), .val (.int (own_f0_2 x0 x1 x2 x3)), .val (.int (own_f0_3 x0 x1 x2 x3)), .val (.ref a5), .val (.ref a17), .val (.int (1 : Int32))] [(.int (1 : Int32)), (.int (1 : Int32))]))
                    refine own_Goes.step (fun tq kq => XS.iand X143.here hx rfl (hb hby at_275) rfl kq) ?_
                    show own_Goes _ _ _ _ _ _ _ (T143.setTop (mkF m 276 #[.val (.long x0), .second, .val (.long x1), .second, .val (.long x2), .second, .val (.int x3), .val (.int (own_f0_1 x0 x1 x2 x3)), .val (.int (x3 &&& (3 : Int32))), .val (.int (own_f0_2 x0 x1 x2 x3)), .val (.int (own_f0_3 x0 x1 x2 x3)), .val (.ref a5), .val (.ref a17), .val (.int (1 : Int32))] [(.int (1 : Int32))]))
                    refine own_Goes.step (fun tq kq => XS.istore X143.here hx rfl (hb hby at_276) rfl (l' := #[.val (.long x0), .second, .val (.long x1), .second, .val (.long x2), .second, .val (.int x3), .val (.int (own_f0_1 x0 x1 x2 x3)), .val (.int (x3 &&& (3 : Int32))), .val (.int (own_f0_2 x0 x1 x2 x3)), .val (.int (own_f0_3 x0 x1 x2 x3)), .val (.ref a5), .val (.ref a17), .val (.int (1 : Int32))]) rfl kq) ?_
                    show own_Goes _ _ _ _ _ _ _ (T143.setTop (mkF m 278 #[.val (.long x0), .second, .val (.long x1), .second, .val (.long x2), .second, .val (.int x3), .val (.int (own_f0_1 x0 x1 x2 x3)), .val (.int (x3 &&& (3 : Int32))), .val (.int (own_f0_2 x0 x1 x2 x3)), .val (.int (own_f0_3 x0 x1 x2 x3)), .val (.ref a5), .val (.ref a17), .val (.int (1 : Int32))] []))
                    refine own_Goes.step (fun tq kq => XS.iload X143.here hx rfl (hb hby at_278) rfl kq) ?_
                    show own_Goes _ _ _ _ _ _ _ (T143.setTop (mkF m 280 #[.val (.long x0), .second, .val (.long x1), .second, .val (.long x2), .second, .val (.int x3), .val (.int (own_f0_1 x0 x1 x2 x3)), .val (.int (x3 &&& (3 : Int32))), .val (.int (own_f0_2 x0 x1 x2 x3)), .val (.int (own_f0_3 x0 x1 x2 x3)), .val (.ref a5), .val (.ref a17), .val (.int (1 : Int32))] [(.int (1 : Int32))]))
                    refine own_Goes.step (fun tq kq => XS.aload X143.here hx rfl (hb hby at_280) rfl rfl kq) ?_
                    show own_Goes _ _ _ _ _ _ _ (T143.setTop (mkF m 282 #[.val (.long x0), .second, .val (.long x1), .second, .val (.long x2), .second, .val (.int x3), .val (.int (own_f0_1 x0 x1 x2 x3)), .val (.int (x3 &&& (3 : Int32))), .val (.int (own_f0_2 x0 x1 x2 x3)), .val (.int (own_f0_3 x0 x1 x2 x3)), .val (.ref a5), .val (.ref a17), .val (.int (1 : Int32))] [(.ref a17), (.int (1 : Int32))]))
                    refine own_Goes.step (fun tq kq => XT.lload X143.here hx rfl (hb hby at_282) rfl kq) ?_
                    show own_Goes _ _ _ _ _ _ _ (T143.setTop (mkF m 284 #[.val (.long x0), .second, .val (.long x1), .second, .val (.long x2), .second, .val (.int x3), .val (.int (own_f0_1 x0 x1 x2 x3)), .val (.int (x3 &&& (3 : Int32))), .val (.int (own_f0_2 x0 x1 x2 x3)), .val (.int (own_f0_3 x0 x1 x2 x3)), .val (.ref a5), .val (.ref a17), .val (.int (1 : Int32))] [(.long x2), (.ref a17), (.int (1 : Int32))]))
                    obtain ⟨t144, ht144, hm144⟩ := IV.find (by decide) x2
                    have hr144 := IV.says hm144
                    obtain ⟨w144, T144, L144, q144, Y144, st144⟩ := own_virt X143 hx hZ e143 (own_W.exa BB) hown (own_at hw 64 rfl) (own_at hw 65 rfl) (own_at hw 67 rfl) (own_at hw 66 rfl) (own_at hw 21 rfl) (own_at hw 68 rfl) (by decide) (own_m8s l Z a0 hw [] a17 x2 kA sA dA pA (own_setJ (own_setJ (own_setJ (fun _ => 0) 0 x0) 1 x1) 2 x2) Sz D 2 fs mx am la ix iA S t144 (own_mem (own_setJ (own_setJ (own_setJ (fun _ => 0) 0 x0) 1 x1) 2 x2) 2 x2) n0 h BB II (IV.1.ok (by decide)) hm144 ht144 hr144) (by decide) (W := 1) (by decide) (by decide) (by decide) (g := (mkF m 284 #[.val (.long x0), .second, .val (.long x1), .second, .val (.long x2), .second, .val (.int x3), .val (.int (own_f0_1 x0 x1 x2 x3)), .val (.int (x3 &&& (3 : Int32))), .val (.int (own_f0_2 x0 x1 x2 x3)), .val (.int (own_f0_3 x0 x1 x2 x3)), .val (.ref a5), .val (.ref a17), .val (.int (1 : Int32))] [(.long x2), (.ref a17), (.int (1 : Int32))])) rfl (by rw [hml]; rfl) (argsL := [(.long x2)]) (rest := [(.int (1 : Int32))]) (lenOf pd_8 rfl) rfl (by show 2 * 0 + _ ≤ _; exact Nat.le_of_eq rfl) (hb hby at_284)
                    obtain ⟨e144, X144⟩ := own_clean q144 Y144 rfl rfl
                    obtain ⟨rfl, -, -⟩ := q144
                    refine own_Goes.step st144 ?_
                    show own_Goes _ _ _ _ _ _ _ (T144.setTop (mkF m 287 #[.val (.long x0), .second, .val (.long x1), .second, .val (.long x2), .second, .val (.int x3), .val (.int (own_f0_1 x0 x1 x2 x3)), .val (.int (x3 &&& (3 : Int32))), .val (.int (own_f0_2 x0 x1 x2 x3)), .val (.int (own_f0_3 x0 x1 x2 x3)), .val (.ref a5), .val (.ref a17), .val (.int (1 : Int32))] [(.int (own_bi (own_mem (own_setJ (own_setJ (own_setJ (fun _ => 0) 0 x0) 1 x1) 2 x2) 2 x2))), (.int (1 : Int32))]))
                    refine own_Goes.step (fun tq kq => XT.lload X144.here hx rfl (hb hby at_287) rfl kq) ?_
                    show own_Goes _ _ _ _ _ _ _ (T144.setTop (mkF m 289 #[.val (.long x0), .second, .val (.long x1), .second, .val (.long x2), .second, .val (.int x3), .val (.int (own_f0_1 x0 x1 x2 x3)), .val (.int (x3 &&& (3 : Int32))), .val (.int (own_f0_2 x0 x1 x2 x3)), .val (.int (own_f0_3 x0 x1 x2 x3)), .val (.ref a5), .val (.ref a17), .val (.int (1 : Int32))] [(.long x2), (.int (own_bi (own_mem (own_setJ (own_setJ (own_setJ (fun _ => 0) 0 x0) 1 x1) 2 x2) 2 x2))), (.int (1 : Int32))]))
                    refine own_Goes.step (fun tq kq => XT.lloadN X144.here hx rfl (hb hby at_289) rfl kq) ?_
                    show own_Goes _ _ _ _ _ _ _ (T144.setTop (mkF m 290 #[.val (.long x0), .second, .val (.long x1), .second, .val (.long x2), .second, .val (.int x3), .val (.int (own_f0_1 x0 x1 x2 x3)), .val (.int (x3 &&& (3 : Int32))), .val (.int (own_f0_2 x0 x1 x2 x3)), .val (.int (own_f0_3 x0 x1 x2 x3)), .val (.ref a5), .val (.ref a17), .val (.int (1 : Int32))] [(.long x0), (.long x2), (.int (own_bi (own_mem (own_setJ (own_setJ (own_setJ (fun _ => 0) 0 x0) 1 x1) 2 x2) 2 x2))), (.int (1 : Int32))]))
                    refine own_Goes.step (fun tq kq => XT.lloadN X144.here hx rfl (hb hby at_290) rfl kq) ?_
                    show own_Goes _ _ _ _ _ _ _ (T144.setTop (mkF m 291 #[.val (.long x0), .second, .val (.long x1), .second, .val (.long x2), .second, .val (.int x3), .val (.int (own_f0_1 x0 x1 x2 x3)), .val (.int (x3 &&& (3 : Int32))), .val (.int (own_f0_2 x0 x1 x2 x3)), .val (.int (own_f0_3 x0 x1 x2 x3)), .val (.ref a5), .val (.ref a17), .val (.int (1 : Int32))] [(.long x1), (.long x0), (.long x2), (.int (own_bi (own_mem (own_setJ (own_setJ (own_setJ (fun _ => 0) 0 x0) 1 x1) 2 x2) 2 x2))), (.int (1 : Int32))]))
                    refine own_Goes.step (fun tq kq => XS.iload X144.here hx rfl (hb hby at_291) rfl kq) ?_
                    show own_Goes _ _ _ _ _ _ _ (T144.setTop (mkF m 293 #[.val (.long x0), .second, .val (.long x1), .second, .val (.long x2), .second, .val (.int x3), .val (.int (own_f0_1 x0 x1 x2 x3)), .val (.int (x3 &&& (3 : Int32))), .val (.int (own_f0_2 x0 x1 x2 x3)), .val (.int (own_f0_3 x0 x1 x2 x3)), .val (.ref a5), .val (.ref a17), .val (.int (1 : Int32))] [(.int (own_f0_1 x0 x1 x2 x3)), (.long x1), (.long x0), (.long x2), (.int (own_bi (own_mem (own_setJ (own_setJ (own_setJ (fun _ => 0) 0 x0) 1 x1) 2 x2) 2 x2))), (.int (1 : Int32))]))
                    obtain ⟨w145, T145, L145, q145, Y145, st145⟩ := own_stat X144 hx hZ e144 hown (own_at hw 99 rfl) (own_at hw 100 rfl) (own_at hw 101 rfl) (own_at hw 102 rfl) (by decide) (own_m15 l Z a0 hw [] x2 x0 x1 (own_f0_1 x0 x1 x2 x3) h ) (by decide) (W := 2) (by decide) (by decide) (by decide) (g := (mkF m 293 #[.val (.long x0), .second, .val (.long x1), .second, .val (.long x2), .second, .val (.int x3), .val (.int (own_f0_1 x0 x1 x2 x3)), .val (.int (x3 &&& (3 : Int32))), .val (.int (own_f0_2 x0 x1 x2 x3)), .val (.int (own_f0_3 x0 x1 x2 x3)), .val (.ref a5), .val (.ref a17), .val (.int (1 : Int32))] [(.int (own_f0_1 x0 x1 x2 x3)), (.long x1), (.long x0), (.long x2), (.int (own_bi (own_mem (own_setJ (own_setJ (own_setJ (fun _ => 0) 0 x0) 1 x1) 2 x2) 2 x2))), (.int (1 : Int32))])) rfl (by rw [hml]; rfl) (argsL := [(.long x2), (.long x0), (.long x1), (.int (own_f0_1 x0 x1 x2 x3))]) (rest := [(.int (own_bi (own_mem (own_setJ (own_setJ (own_setJ (fun _ => 0) 0 x0) 1 x1) 2 x2) 2 x2))), (.int (1 : Int32))]) (lenOf pd_15 rfl) rfl (by show 2 * 0 + _ ≤ _; exact Nat.le_of_eq rfl) (hb hby at_293)
                    obtain ⟨e145, X145⟩ := own_clean q145 Y145 rfl rfl
                    obtain ⟨rfl, -, -⟩ := q145
                    refine own_Goes.step st145 ?_
                    show own_Goes _ _ _ _ _ _ _ (T145.setTop (mkF m 296 #[.val (.long x0), .second, .val (.long x1), .second, .val (.long x2), .second, .val (.int x3), .val (.int (own_f0_1 x0 x1 x2 x3)), .val (.int (x3 &&& (3 : Int32))), .val (.int (own_f0_2 x0 x1 x2 x3)), .val (.int (own_f0_3 x0 x1 x2 x3)), .val (.ref a5), .val (.ref a17), .val (.int (1 : Int32))] [(.int (own_f15 x2 x0 x1 (own_f0_1 x0 x1 x2 x3))), (.int (own_bi (own_mem (own_setJ (own_setJ (own_setJ (fun _ => 0) 0 x0) 1 x1) 2 x2) 2 x2))), (.int (1 : Int32))]))
                    refine own_Goes.step (fun tq kq => XS.icmpNo X145.here hx rfl (hb hby at_296) rfl (XT.ii_ne_f (own_held2 rfl rfl hc88)) kq) ?_
                    show own_Goes _ _ _ _ _ _ _ (T145.setTop (mkF m 299 #[.val (.long x0), .second, .val (.long x1), .second, .val (.long x2), .second, .val (.int x3), .val (.int (own_f0_1 x0 x1 x2 x3)), .val (.int (x3 &&& (3 : Int32))), .val (.int (own_f0_2 x0 x1 x2 x3)), .val (.int (own_f0_3 x0 x1 x2 x3)), .val (.ref a5), .val (.ref a17), .val (.int (1 : Int32))] [(.int (1 : Int32))]))
                    refine own_Goes.step (fun tq kq => XT.iconstV X145.here hx rfl (1 : Int32) (hb hby at_299) (by decide) kq) ?_
                    show own_Goes _ _ _ _ _ _ _ (T145.setTop (mkF m 300 #[.val (.long x0), .second, .val (.long x1), .second, .val (.long x2), .second, .val (.int x3), .val (.int (own_f0_1 x0 x1 x2 x3)), .val (.int (x3 &&& (3 : Int32))), .val (.int (own_f0_2 x0 x1 x2 x3)), .val (.int (own_f0_3 x0 x1 x2 x3)), .val (.ref a5), .val (.ref a17), .val (.int (1 : Int32))] [(.int (1 : Int32)), (.int (1 : Int32))]))
                    refine own_Goes.step (fun tq kq => XS.goto X145.here hx rfl (pc0 := 300) (pc' := 304) rfl (hb hby at_300) (by decide) (by decide) kq) ?_
                    show own_Goes _ _ _ _ _ _ _ (T145.setTop (mkF m 304 #[.val (.long x0), .second, .val (.long x1), .second, .val (.long x2), .second, .val (.int x3), .val (.int (own_f0_1 x0 x1 x2 x3)), .val (.int (x3 &&& (3 : Int32))), .val (.int (own_f0_2 x0 x1 x2 x3)), .val (.int (own_f0_3 x0 x1 x2 x3)), .val (.ref a5), .val (.ref a17), .val (.int (1 : Int32))] [(.int (1 : Int32)), (.int (1 : Int32))]))
                    refine own_Goes.step (fun tq kq => XS.iand X145.here hx rfl (hb hby at_304) rfl kq) ?_
                    show own_Goes _ _ _ _ _ _ _ (T145.setTop (mkF m 305 #[.val (.long x0), .second, .val (.long x1), .second, .val (.long x2), .second, .val (.int x3), .val (.int (own_f0_1 x0 x1 x2 x3)), .val (.int (x3 &&& (3 : Int32))), .val (.int (own_f0_2 x0 x1 x2 x3)), .val (.int (own_f0_3 x0 x1 x2 x3)), .val (.ref a5), .val (.ref a17), .val (.int (1 : Int32))] [(.int (1 : Int32))]))
                    refine own_Goes.step (fun tq kq => XS.istore X145.here hx rfl (hb hby at_305) rfl (l' := #[.val (.long x0), .second, .val (.long x1), .second, .val (.long x2), .second, .val (.int x3), .val (.int (own_f0_1 x0 x1 x2 x3)), .val (.int (x3 &&& (3 : Int32))), .val (.int (own_f0_2 x0 x1 x2 x3)), .val (.int (own_f0_3 x0 x1 x2 x3)), .val (.ref a5), .val (.ref a17), .val (.int (1 : Int32))]) rfl kq) ?_
                    show own_Goes _ _ _ _ _ _ _ (T145.setTop (mkF m 307 #[.val (.long x0), .second, .val (.long x1), .second, .val (.long x2), .second, .val (.int x3), .val (.int (own_f0_1 x0 x1 x2 x3)), .val (.int (x3 &&& (3 : Int32))), .val (.int (own_f0_2 x0 x1 x2 x3)), .val (.int (own_f0_3 x0 x1 x2 x3)), .val (.ref a5), .val (.ref a17), .val (.int (1 : Int32))] []))
                    refine own_Goes.step (fun tq kq => XS.iload X145.here hx rfl (hb hby at_307) rfl kq) ?_
                    show own_Goes _ _ _ _ _ _ _ (T145.setTop (mkF m 309 #[.val (.long x0), .second, .val (.long x1), .second, .val (.long x2), .second, .val (.int x3), .val (.int (own_f0_1 x0 x1 x2 x3)), .val (.int (x3 &&& (3 : Int32))), .val (.int (own_f0_2 x0 x1 x2 x3)), .val (.int (own_f0_3 x0 x1 x2 x3)), .val (.ref a5), .val (.ref a17), .val (.int (1 : Int32))] [(.int (1 : Int32))]))
                    exact own_endN X145 hx Bd.notSynchronized (t := .boolean) Bd.returns (by simp) (hb hby at_309) ⟨rfl, NN⟩ (by decide) (by decide)
                  by_cases hc139 : (own_f0_1 x0 x1 x2 x3) = (0 : Int32)
                  · refine own_Goes.step (fun tq kq => XS.ifNo X138.here hx rfl (hb hby at_205) rfl (XT.i0_ne_f hc139) kq) ?_
                    show own_Goes _ _ _ _ _ _ _ (T138.setTop (mkF m 208 #[.val (.long x0), .second, .val (.long x1), .second, .val (.long x2), .second, .val (.int x3), .val (.int (own_f0_1 x0 x1 x2 x3)), .val (.int (x3 &&& (3 : Int32))), .val (.int (own_f0_2 x0 x1 x2 x3)), .val (.int (own_f0_3 x0 x1 x2 x3)), .val (.ref a5), .val (.ref a17), .val (.int (1 : Int32))] [(.int (own_f14 (Int32.ofNat 2))), (.int (1 : Int32))]))
                    refine own_Goes.step (fun tq kq => XT.iconstV X138.here hx rfl (1 : Int32) (hb hby at_208) (by decide) kq) ?_
                    show own_Goes _ _ _ _ _ _ _ (T138.setTop (mkF m 209 #[.val (.long x0), .second, .val (.long x1), .second, .val (.long x2), .second, .val (.int x3), .val (.int (own_f0_1 x0 x1 x2 x3)), .val (.int (x3 &&& (3 : Int32))), .val (.int (own_f0_2 x0 x1 x2 x3)), .val (.int (own_f0_3 x0 x1 x2 x3)), .val (.ref a5), .val (.ref a17), .val (.int (1 : Int32))] [(.int (1 : Int32)), (.int (own_f14 (Int32.ofNat 2))), (.int (1 : Int32))]))
                    refine own_Goes.step (fun tq kq => XS.goto X138.here hx rfl (pc0 := 209) (pc' := 213) rfl (hb hby at_209) (by decide) (by decide) kq) ?_
                    show own_Goes _ _ _ _ _ _ _ (T138.setTop (mkF m 213 #[.val (.long x0), .second, .val (.long x1), .second, .val (.long x2), .second, .val (.int x3), .val (.int (own_f0_1 x0 x1 x2 x3)), .val (.int (x3 &&& (3 : Int32))), .val (.int (own_f0_2 x0 x1 x2 x3)), .val (.int (own_f0_3 x0 x1 x2 x3)), .val (.ref a5), .val (.ref a17), .val (.int (1 : Int32))] [(.int (1 : Int32)), (.int (own_f14 (Int32.ofNat 2))), (.int (1 : Int32))]))
                    rw [show (own_f0_5 x0 x1 x2 x3) = (1 : Int32) from by simp only [own_f0_5, if_pos hc139]] at J146
                    exact J146
                  · refine own_Goes.step (fun tq kq => XS.ifYes X138.here hx rfl (pc0 := 205) (pc' := 212) rfl (hb hby at_205) rfl (XT.i0_ne_t hc139) (by decide) (by decide) kq) ?_
                    show own_Goes _ _ _ _ _ _ _ (T138.setTop (mkF m 212 #[.val (.long x0), .second, .val (.long x1), .second, .val (.long x2), .second, .val (.int x3), .val (.int (own_f0_1 x0 x1 x2 x3)), .val (.int (x3 &&& (3 : Int32))), .val (.int (own_f0_2 x0 x1 x2 x3)), .val (.int (own_f0_3 x0 x1 x2 x3)), .val (.ref a5), .val (.ref a17), .val (.int (1 : Int32))] [(.int (own_f14 (Int32.ofNat 2))), (.int (1 : Int32))]))
                    refine own_Goes.step (fun tq kq => XT.iconstV X138.here hx rfl (0 : Int32) (hb hby at_212) (by decide) kq) ?_
                    show own_Goes _ _ _ _ _ _ _ (T138.setTop (mkF m 213 #[.val (.long x0), .second, .val (.long x1), .second, .val (.long x2), .second, .val (.int x3), .val (.int (own_f0_1 x0 x1 x2 x3)), .val (.int (x3 &&& (3 : Int32))), .val (.int (own_f0_2 x0 x1 x2 x3)), .val (.int (own_f0_3 x0 x1 x2 x3)), .val (.ref a5), .val (.ref a17), .val (.int (1 : Int32))] [(.int (0 : Int32)), (.int (own_f14 (Int32.ofNat 2))), (.int (1 : Int32))]))
                    rw [show (own_f0_5 x0 x1 x2 x3) = (0 : Int32) from by simp only [own_f0_5, if_neg hc139]] at J146
                    exact J146
                refine own_Goes.step (fun tq kq => XT.iconstV Y134.here hx rfl (1 : Int32) (hb hby at_128) (by decide) kq) ?_
                show own_Goes _ _ _ _ _ _ _ (T134.setTop (mkF m 129 #[.val (.long x0), .second, .val (.long x1), .second, .val (.long x2), .second, .val (.int x3), .val (.int (own_f0_1 x0 x1 x2 x3)), .val (.int (x3 &&& (3 : Int32))), .val (.int (own_f0_2 x0 x1 x2 x3)), .val (.int (own_f0_3 x0 x1 x2 x3)), .val (.ref a5), .val (.ref a17), .unset] [(.int (1 : Int32))]))
                refine own_Goes.step (fun tq kq => XS.istore Y134.here hx rfl (hb hby at_129) rfl (l' := #[.val (.long x0), .second, .val (.long x1), .second, .val (.long x2), .second, .val (.int x3), .val (.int (own_f0_1 x0 x1 x2 x3)), .val (.int (x3 &&& (3 : Int32))), .val (.int (own_f0_2 x0 x1 x2 x3)), .val (.int (own_f0_3 x0 x1 x2 x3)), .val (.ref a5), .val (.ref a17), .val (.int (1 : Int32))]) rfl kq) ?_
                show own_Goes _ _ _ _ _ _ _ (T134.setTop (mkF m 131 #[.val (.long x0), .second, .val (.long x1), .second, .val (.long x2), .second, .val (.int x3), .val (.int (own_f0_1 x0 x1 x2 x3)), .val (.int (x3 &&& (3 : Int32))), .val (.int (own_f0_2 x0 x1 x2 x3)), .val (.int (own_f0_3 x0 x1 x2 x3)), .val (.ref a5), .val (.ref a17), .val (.int (1 : Int32))] []))
                refine own_Goes.step (fun tq kq => XS.iload Y134.here hx rfl (hb hby at_131) rfl kq) ?_
                show own_Goes _ _ _ _ _ _ _ (T134.setTop (mkF m 133 #[.val (.long x0), .second, .val (.long x1), .second, .val (.long x2), .second, .val (.int x3), .val (.int (own_f0_1 x0 x1 x2 x3)), .val (.int (x3 &&& (3 : Int32))), .val (.int (own_f0_2 x0 x1 x2 x3)), .val (.int (own_f0_3 x0 x1 x2 x3)), .val (.ref a5), .val (.ref a17), .val (.int (1 : Int32))] [(.int (own_f0_2 x0 x1 x2 x3))]))
                by_cases hc147 : (own_f0_2 x0 x1 x2 x3) = (0 : Int32)
                · refine own_Goes.step (fun tq kq => XS.ifYes Y134.here hx rfl (pc0 := 133) (pc' := 165) rfl (hb hby at_133) rfl (XT.i0_eq_t hc147) (by decide) (by decide) kq) ?_
                  show own_Goes _ _ _ _ _ _ _ (T134.setTop (mkF m 165 #[.val (.long x0), .second, .val (.long x1), .second, .val (.long x2), .second, .val (.int x3), .val (.int (own_f0_1 x0 x1 x2 x3)), .val (.int (x3 &&& (3 : Int32))), .val (.int (own_f0_2 x0 x1 x2 x3)), .val (.int (own_f0_3 x0 x1 x2 x3)), .val (.ref a5), .val (.ref a17), .val (.int (1 : Int32))] []))
                  refine own_Goes.step (fun tq kq => XS.aload Y134.here hx rfl (hb hby at_165) rfl rfl kq) ?_
                  show own_Goes _ _ _ _ _ _ _ (T134.setTop (mkF m 167 #[.val (.long x0), .second, .val (.long x1), .second, .val (.long x2), .second, .val (.int x3), .val (.int (own_f0_1 x0 x1 x2 x3)), .val (.int (x3 &&& (3 : Int32))), .val (.int (own_f0_2 x0 x1 x2 x3)), .val (.int (own_f0_3 x0 x1 x2 x3)), .val (.ref a5), .val (.ref a17), .val (.int (1 : Int32))] [(.ref a17)]))
                  refine own_Goes.step (fun tq kq => XT.lload Y134.here hx rfl (hb hby at_167) rfl kq) ?_
                  show own_Goes _ _ _ _ _ _ _ (T134.setTop (mkF m 169 #[.val (.long x0), .second, .val (.long x1), .second, .val (.long x2), .second, .val (.int x3), .val (.int (own_f0_1 x0 x1 x2 x3)), .val (.int (x3 &&& (3 : Int32))), .val (.int (own_f0_2 x0 x1 x2 x3)), .val (.int (own_f0_3 x0 x1 x2 x3)), .val (.ref a5), .val (.ref a17), .val (.int (1 : Int32))] [(.long x2), (.ref a17)]))
                  refine own_Goes.step (fun tq kq => XS.aload Y134.here hx rfl (hb hby at_169) rfl rfl kq) ?_
                  show own_Goes _ _ _ _ _ _ _ (T134.setTop (mkF m 171 #[.val (.long x0), .second, .val (.long x1), .second, .val (.long x2), .second, .val (.int x3), .val (.int (own_f0_1 x0 x1 x2 x3)), .val (.int (x3 &&& (3 : Int32))), .val (.int (own_f0_2 x0 x1 x2 x3)), .val (.int (own_f0_3 x0 x1 x2 x3)), .val (.ref a5), .val (.ref a17), .val (.int (1 : Int32))] [(.ref a5), (.long x2), (.ref a17)]))
                  obtain ⟨w148, T148, L148, q148, Y148, st148⟩ := own_virt Y134 hx hZ rfl (own_W.exa B134) hown (own_at hw 39 rfl) (own_at hw 40 rfl) (own_at hw 42 rfl) (own_at hw 41 rfl) (own_at hw 21 rfl) (own_at hw 43 rfl) (by decide) (own_m5n l Z a0 hw [] a17 x2 a5 kA sA dA pA (own_setJ (own_setJ (fun _ => 0) 0 x0) 1 x1) (own_setJ (own_setJ (fun _ => 0) 0 (own_f1_size ((8 : Int64) + (((XT.ushr x3 (4 : Int32)) &&& (7 : Int32)).toInt64)) (own_f0_4 x0 x1 x2 x3))) 1 (own_f1_size ((8 : Int64) + (((XT.ushr x3 (4 : Int32)) &&& (7 : Int32)).toInt64)) (own_f0_4 x0 x1 x2 x3))) (own_set (own_set (fun _ => 0) 0 (nar .boolean (own_f7 (own_f1_delete ((8 : Int64) + (((XT.ushr x3 (4 : Int32)) &&& (7 : Int32)).toInt64)) (own_f0_4 x0 x1 x2 x3))))) 1 (nar .boolean (own_f7 (own_f1_delete ((8 : Int64) + (((XT.ushr x3 (4 : Int32)) &&& (7 : Int32)).toInt64)) (own_f0_4 x0 x1 x2 x3))))) 2 fs134 mx134 am134 (-1 : Int32) 0 (own_f1_size ((8 : Int64) + (((XT.ushr x3 (4 : Int32)) &&& (7 : Int32)).toInt64)) (own_f0_4 x0 x1 x2 x3)) (own_f1_delete ((8 : Int64) + (((XT.ushr x3 (4 : Int32)) &&& (7 : Int32)).toInt64)) (own_f0_4 x0 x1 x2 x3)) n0 T134.heap B134 f135 f136 f137 (own_flag x0 x1 x2 x3) en_w en_kA en_sA en_dA en_pA (by decide)) (by decide) (W := 0) (by decide) (by decide) (by decide) (g := (mkF m 171 #[.val (.long x0), .second, .val (.long x1), .second, .val (.long x2), .second, .val (.int x3), .val (.int (own_f0_1 x0 x1 x2 x3)), .val (.int (x3 &&& (3 : Int32))), .val (.int (own_f0_2 x0 x1 x2 x3)), .val (.int (own_f0_3 x0 x1 x2 x3)), .val (.ref a5), .val (.ref a17), .val (.int (1 : Int32))] [(.ref a5), (.long x2), (.ref a17)])) rfl (by rw [hml]; rfl) (argsL := [(.long x2), (.ref a5)]) (rest := []) (lenOf pd_5 rfl) rfl (by show 2 * 0 + _ ≤ _; exact Nat.le_of_eq rfl) (hb hby at_171)
                  obtain ⟨rfl, N148, K148, fs148, mx148, am148, -, B148⟩ := q148
                  have Nn148 := Fr.app Nn134 N148
                  have f149 := f135.keep K148
                  have f150 := f136.keep K148 (own_nin4 en_w en_kA en_sA en_dA)
                  have f151 := f137.keep K148 (own_nin4 en_w en_kA en_sA en_dA)
                  refine own_Goes.step st148 ?_
                  show own_Goes _ _ _ _ _ _ _ (T148.setTop (mkF m 174 #[.val (.long x0), .second, .val (.long x1), .second, .val (.long x2), .second, .val (.int x3), .val (.int (own_f0_1 x0 x1 x2 x3)), .val (.int (x3 &&& (3 : Int32))), .val (.int (own_f0_2 x0 x1 x2 x3)), .val (.int (own_f0_3 x0 x1 x2 x3)), .val (.ref a5), .val (.ref a17), .val (.int (1 : Int32))] []))
                  refine own_Goes.step (fun tq kq => XS.iload Y148.here hx rfl (hb hby at_174) rfl kq) ?_
                  show own_Goes _ _ _ _ _ _ _ (T148.setTop (mkF m 176 #[.val (.long x0), .second, .val (.long x1), .second, .val (.long x2), .second, .val (.int x3), .val (.int (own_f0_1 x0 x1 x2 x3)), .val (.int (x3 &&& (3 : Int32))), .val (.int (own_f0_2 x0 x1 x2 x3)), .val (.int (own_f0_3 x0 x1 x2 x3)), .val (.ref a5), .val (.ref a17), .val (.int (1 : Int32))] [(.int (own_f0_3 x0 x1 x2 x3))]))
                  by_cases hc152 : (own_f0_3 x0 x1 x2 x3) = (0 : Int32)
                  · refine own_Goes.step (fun tq kq => XS.ifYes Y148.here hx rfl (pc0 := 176) (pc' := 191) rfl (hb hby at_176) rfl (XT.i0_eq_t hc152) (by decide) (by decide) kq) ?_
                    show own_Goes _ _ _ _ _ _ _ (T148.setTop (mkF m 191 #[.val (.long x0), .second, .val (.long x1), .second, .val (.long x2), .second, .val (.int x3), .val (.int (own_f0_1 x0 x1 x2 x3)), .val (.int (x3 &&& (3 : Int32))), .val (.int (own_f0_2 x0 x1 x2 x3)), .val (.int (own_f0_3 x0 x1 x2 x3)), .val (.ref a5), .val (.ref a17), .val (.int (1 : Int32))] []))
                    refine own_Goes.step (fun tq kq => XS.aload Y148.here hx rfl (hb hby at_191) rfl rfl kq) ?_
                    show own_Goes _ _ _ _ _ _ _ (T148.setTop (mkF m 193 #[.val (.long x0), .second, .val (.long x1), .second, .val (.long x2), .second, .val (.int x3), .val (.int (own_f0_1 x0 x1 x2 x3)), .val (.int (x3 &&& (3 : Int32))), .val (.int (own_f0_2 x0 x1 x2 x3)), .val (.int (own_f0_3 x0 x1 x2 x3)), .val (.ref a5), .val (.ref a17), .val (.int (1 : Int32))] [(.ref a17)]))
                    obtain ⟨w153, T153, L153, q153, Y153, st153⟩ := own_virt Y148 hx hZ rfl (own_W.exa B148) hown (own_at hw 89 rfl) (own_at hw 90 rfl) (own_at hw 92 rfl) (own_at hw 91 rfl) (own_at hw 21 rfl) (own_at hw 93 rfl) (by decide) (own_m13n l Z a0 hw [] a17 kA sA dA pA (own_setJ (own_setJ (own_setJ (fun _ => 0) 0 x0) 1 x1) 2 x2) (own_setJ (own_setJ (own_setJ (fun _ => 0) 0 (own_f1_size ((8 : Int64) + (((XT.ushr x3 (4 : Int32)) &&& (7 : Int32)).toInt64)) (own_f0_4 x0 x1 x2 x3))) 1 (own_f1_size ((8 : Int64) + (((XT.ushr x3 (4 : Int32)) &&& (7 : Int32)).toInt64)) (own_f0_4 x0 x1 x2 x3))) 2 (own_f1_size ((8 : Int64) + (((XT.ushr x3 (4 : Int32)) &&& (7 : Int32)).toInt64)) (own_f0_4 x0 x1 x2 x3))) (own_set (own_set (own_set (fun _ => 0) 0 (nar .boolean (own_f7 (own_f1_delete ((8 : Int64) + (((XT.ushr x3 (4 : Int32)) &&& (7 : Int32)).toInt64)) (own_f0_4 x0 x1 x2 x3))))) 1 (nar .boolean (own_f7 (own_f1_delete ((8 : Int64) + (((XT.ushr x3 (4 : Int32)) &&& (7 : Int32)).toInt64)) (own_f0_4 x0 x1 x2 x3))))) 2 (nar .boolean (own_f7 (own_f1_delete ((8 : Int64) + (((XT.ushr x3 (4 : Int32)) &&& (7 : Int32)).toInt64)) (own_f0_4 x0 x1 x2 x3))))) 2 fs148 mx148 am148 (-1 : Int32) 0 n0 T148.heap B148) (by decide) (W := 0) (by decide) (by decide) (by decide) (g := (mkF m 193 #[.val (.long x0), .second, .val (.long x1), .second, .val (.long x2), .second, .val (.int x3), .val (.int (own_f0_1 x0 x1 x2 x3)), .val (.int (x3 &&& (3 : Int32))), .val (.int (own_f0_2 x0 x1 x2 x3)), .val (.int (own_f0_3 x0 x1 x2 x3)), .val (.ref a5), .val (.ref a17), .val (.int (1 : Int32))] [(.ref a17)])) rfl (by rw [hml]; rfl) (argsL := []) (rest := []) (lenOf pd_13 rfl) rfl (by show 2 * 0 + _ ≤ _; exact Nat.le_of_eq rfl) (hb hby at_193)
                    obtain ⟨rfl, N153, B153⟩ := q153
                    have Nn153 := Fr.app Nn148 N153
                    refine own_Goes.step st153 ?_
                    show own_Goes _ _ _ _ _ _ _ (T153.setTop (mkF m 196 #[.val (.long x0), .second, .val (.long x1), .second, .val (.long x2), .second, .val (.int x3), .val (.int (own_f0_1 x0 x1 x2 x3)), .val (.int (x3 &&& (3 : Int32))), .val (.int (own_f0_2 x0 x1 x2 x3)), .val (.int (own_f0_3 x0 x1 x2 x3)), .val (.ref a5), .val (.ref a17), .val (.int (1 : Int32))] []))
                    refine own_Goes.step (fun tq kq => XS.iload Y153.here hx rfl (hb hby at_196) rfl kq) ?_
                    show own_Goes _ _ _ _ _ _ _ (T153.setTop (mkF m 198 #[.val (.long x0), .second, .val (.long x1), .second, .val (.long x2), .second, .val (.int x3), .val (.int (own_f0_1 x0 x1 x2 x3)), .val (.int (x3 &&& (3 : Int32))), .val (.int (own_f0_2 x0 x1 x2 x3)), .val (.int (own_f0_3 x0 x1 x2 x3)), .val (.ref a5), .val (.ref a17), .val (.int (1 : Int32))] [(.int (1 : Int32))]))
                    refine own_Goes.step (fun tq kq => XS.aload Y153.here hx rfl (hb hby at_198) rfl rfl kq) ?_
                    show own_Goes _ _ _ _ _ _ _ (T153.setTop (mkF m 200 #[.val (.long x0), .second, .val (.long x1), .second, .val (.long x2), .second, .val (.int x3), .val (.int (own_f0_1 x0 x1 x2 x3)), .val (.int (x3 &&& (3 : Int32))), .val (.int (own_f0_2 x0 x1 x2 x3)), .val (.int (own_f0_3 x0 x1 x2 x3)), .val (.ref a5), .val (.ref a17), .val (.int (1 : Int32))] [(.ref a17), (.int (1 : Int32))]))
                    obtain ⟨w154, T154, L154, q154, Y154, st154⟩ := own_virt Y153 hx hZ rfl (own_W.exa B153) hown (own_at hw 94 rfl) (own_at hw 95 rfl) (own_at hw 97 rfl) (own_at hw 96 rfl) (own_at hw 21 rfl) (own_at hw 98 rfl) (by decide) (own_m14 l Z a0 hw [] a17 (Int32.ofNat 2) T153.heap (own_W.count B153) ) (by decide) (W := 1) (by decide) (by decide) (by decide) (g := (mkF m 200 #[.val (.long x0), .second, .val (.long x1), .second, .val (.long x2), .second, .val (.int x3), .val (.int (own_f0_1 x0 x1 x2 x3)), .val (.int (x3 &&& (3 : Int32))), .val (.int (own_f0_2 x0 x1 x2 x3)), .val (.int (own_f0_3 x0 x1 x2 x3)), .val (.ref a5), .val (.ref a17), .val (.int (1 : Int32))] [(.ref a17), (.int (1 : Int32))])) rfl (by rw [hml]; rfl) (argsL := []) (rest := [(.int (1 : Int32))]) (lenOf pd_14 rfl) rfl (by show 2 * 0 + _ ≤ _; exact Nat.le_of_eq rfl) (hb hby at_200)
                    obtain ⟨e154, X154⟩ := own_clean q154 Y154 rfl rfl
                    obtain ⟨rfl, -, -⟩ := q154
                    refine own_Goes.step st154 ?_
                    show own_Goes _ _ _ _ _ _ _ (T154.setTop (mkF m 203 #[.val (.long x0), .second, .val (.long x1), .second, .val (.long x2), .second, .val (.int x3), .val (.int (own_f0_1 x0 x1 x2 x3)), .val (.int (x3 &&& (3 : Int32))), .val (.int (own_f0_2 x0 x1 x2 x3)), .val (.int (own_f0_3 x0 x1 x2 x3)), .val (.ref a5), .val (.ref a17), .val (.int (1 : Int32))] [(.int (own_f14 (Int32.ofNat 2))), (.int (1 : Int32))]))
                    refine own_Goes.step (fun tq kq => XS.iload X154.here hx rfl (hb hby at_203) rfl kq) ?_
                    show own_Goes _ _ _ _ _ _ _ (T154.setTop (mkF m 205 #[.val (.long x0), .second, .val (.long x1), .second, .val (.long x2), .second, .val (.int x3), .val (.int (own_f0_1 x0 x1 x2 x3)), .val (.int (x3 &&& (3 : Int32))), .val (.int (own_f0_2 x0 x1 x2 x3)), .val (.int (own_f0_3 x0 x1 x2 x3)), .val (.ref a5), .val (.ref a17), .val (.int (1 : Int32))] [(.int (own_f0_1 x0 x1 x2 x3)), (.int (own_f14 (Int32.ofNat 2))), (.int (1 : Int32))]))
                    have J162 : own_Goes p e below s (own_F0 Z x0 x1 x2 x3 n0 h0) room_1.cells room_1.slots (T154.setTop (mkF m 213 #[.val (.long x0), .second, .val (.long x1), .second, .val (.long x2), .second, .val (.int x3), .val (.int (own_f0_1 x0 x1 x2 x3)), .val (.int (x3 &&& (3 : Int32))), .val (.int (own_f0_2 x0 x1 x2 x3)), .val (.int (own_f0_3 x0 x1 x2 x3)), .val (.ref a5), .val (.ref a17), .val (.int (1 : Int32))] [(.int (own_f0_5 x0 x1 x2 x3)), (.int (own_f14 (Int32.ofNat 2))), (.int (1 : Int32))])) := by
                      refine own_Goes.step (fun tq kq => XS.icmpNo X154.here hx rfl (hb hby at_213) rfl (XT.ii_ne_f (own_emp2 x0 x1 x2 x3 hc88)) kq) ?_
                      show own_Goes _ _ _ _ _ _ _ (T154.setTop (mkF m 216 #[.val (.long x0), .second, .val (.long x1), .second, .val (.long x2), .second, .val (.int x3), .val (.int (own_f0_1 x0 x1 x2 x3)), .val (.int (x3 &&& (3 : Int32))), .val (.int (own_f0_2 x0 x1 x2 x3)), .val (.int (own_f0_3 x0 x1 x2 x3)), .val (.ref a5), .val (.ref a17), .val (.int (1 : Int32))] [(.int (1 : Int32))]))
                      refine own_Goes.step (fun tq kq => XT.iconstV X154.here hx rfl (1 : Int32) (hb hby at_216) (by decide) kq) ?_
                      show own_Goes _ _ _ _ _ _ _ (T154.setTop (mkF m 217 #[.val (.long x0), .second, .val (.long x1), .second, .val (.long x2), .second, .val (.int x3), .val (.int (own_f0_1 x0 x1 x2 x3)), .val (.int (x3 &&& (3 : Int32))), .val (.int (own_f0_2 x0 x1 x2 x3)), .val (.int (own_f0_3 x0 x1 x2 x3)), .val (.ref a5), .val (.ref a17), .val (.int (1 : Int32))] [(.int (1 : Int32)), (.int (1 : Int32))]))
                      refine own_Goes.step (fun tq kq => XS.goto X154.here hx rfl (pc0 := 217) (pc' := 221) rfl (hb hby at_217) (by decide) (by decide) kq) ?_
                      show own_Goes _ _ _ _ _ _ _ (T154.setTop (mkF m 221 #[.val (.long x0), .second, .val (.long x1), .second, .val (.long x2), .second, .val (.int x3), .val (.int (own_f0_1 x0 x1 x2 x3)), .val (.int (x3 &&& (3 : Int32))), .val (.int (own_f0_2 x0 x1 x2 x3)), .val (.int (own_f0_3 x0 x1 x2 x3)), .val (.ref a5), .val (.ref a17), .val (.int (1 : Int32))] [(.int (1 : Int32)), (.int (1 : Int32))]))
                      refine own_Goes.step (fun tq kq => XS.iand X154.here hx rfl (hb hby at_221) rfl kq) ?_
                      show own_Goes _ _ _ _ _ _ _ (T154.setTop (mkF m 222 #[.val (.long x0), .second, .val (.long x1), .second, .val (.long x2), .second, .val (.int x3), .val (.int (own_f0_1 x0 x1 x2 x3)), .val (.int (x3 &&& (3 : Int32))), .val (.int (own_f0_2 x0 x1 x2 x3)), .val (.int (own_f0_3 x0 x1 x2 x3)), .val (.ref a5), .val (.ref a17), .val (.int (1 : Int32))] [(.int (1 : Int32))]))
                      refine own_Goes.step (fun tq kq => XS.istore X154.here hx rfl (hb hby at_222) rfl (l' := #[.val (.long x0), .second, .val (.long x1), .second, .val (.long x2), .second, .val (.int x3), .val (.int (own_f0_1 x0 x1 x2 x3)), .val (.int (x3 &&& (3 : Int32))), .val (.int (own_f0_2 x0 x1 x2 x3)), .val (.int (own_f0_3 x0 x1 x2 x3)), .val (.ref a5), .val (.ref a17), .val (.int (1 : Int32))]) rfl kq) ?_
                      show own_Goes _ _ _ _ _ _ _ (T154.setTop (mkF m 224 #[.val (.long x0), .second, .val (.long x1), .second, .val (.long x2), .second, .val (.int x3), .val (.int (own_f0_1 x0 x1 x2 x3)), .val (.int (x3 &&& (3 : Int32))), .val (.int (own_f0_2 x0 x1 x2 x3)), .val (.int (own_f0_3 x0 x1 x2 x3)), .val (.ref a5), .val (.ref a17), .val (.int (1 : Int32))] []))
                      refine own_Goes.step (fun tq kq => XS.iload X154.here hx rfl (hb hby at_224) rfl kq) ?_
                      show own_Goes _ _ _ _ _ _ _ (T154.setTop (mkF m 226 #[.val (.long x0), .second, .val (.long x1), .second, .val (.long x2), .second, .val (.int x3), .val (.int (own_f0_1 x0 x1 x2 x3)), .val (.int (x3 &&& (3 : Int32))), .val (.int (own_f0_2 x0 x1 x2 x3)), .val (.int (own_f0_3 x0 x1 x2 x3)), .val (.ref a5), .val (.ref a17), .val (.int (1 : Int32))] [(.int (1 : Int32))]))
                      refine own_Goes.step (fun tq kq => XS.aload X154.here hx rfl (hb hby at_226) rfl rfl kq) ?_
                      show own_Goes _ _ _ _ _ _ _ (T154.setTop (mkF m 228 #[.val (.long x0), .second, .val (.long x1), .second, .val (.long x2), .second, .val (.int x3), .val (.int (own_f0_1 x0 x1 x2 x3)), .val (.int (x3 &&& (3 : Int32))), .val (.int (own_f0_2 x0 x1 x2 x3)), .val (.int (own_f0_3 x0 x1 x2 x3)), .val (.ref a5), .val (.ref a17), .val (.int (1 : Int32))] [(.ref a17), (.int (1 : Int32))]))
                      refine own_Goes.step (fun tq kq => XT.lloadN X154.here hx rfl (hb hby at_228) rfl kq) ?_
                      show own_Goes _ _ _ _ _ _ _ (T154.setTop (mkF m 229 #[.val (.long x0), .second, .val (.long x1), .second, .val (.long x2), .second, .val (.int x3), .val (.int (own_f0_1 x0 x1 x2 x3)), .val (.int (x3 &&& (3 : Int32))), .val (.int (own_f0_2 x0 x1 x2 x3)), .val (.int (own_f0_3 x0 x1 x2 x3)), .val (.ref a5), .val (.ref a17), .val (.int (1 : Int32))] [(.long x0), (.ref a17), (.int (1 : Int32))]))
                      obtain ⟨w156, T156, L156, q156, Y156, st156⟩ := own_virt X154 hx hZ e154 (own_W.exa B153) hown (own_at hw 64 rfl) (own_at hw 65 rfl) (own_at hw 67 rfl) (own_at hw 66 rfl) (own_at hw 21 rfl) (own_at hw 68 rfl) (by decide) (own_m8n l Z a0 hw [] a17 x0 kA sA dA pA (own_setJ (own_setJ (own_setJ (fun _ => 0) 0 x0) 1 x1) 2 x2) (own_setJ (own_setJ (own_setJ (fun _ => 0) 0 (own_f1_size ((8 : Int64) + (((XT.ushr x3 (4 : Int32)) &&& (7 : Int32)).toInt64)) (own_f0_4 x0 x1 x2 x3))) 1 (own_f1_size ((8 : Int64) + (((XT.ushr x3 (4 : Int32)) &&& (7 : Int32)).toInt64)) (own_f0_4 x0 x1 x2 x3))) 2 (own_f1_size ((8 : Int64) + (((XT.ushr x3 (4 : Int32)) &&& (7 : Int32)).toInt64)) (own_f0_4 x0 x1 x2 x3))) (own_set (own_set (own_set (fun _ => 0) 0 (nar .boolean (own_f7 (own_f1_delete ((8 : Int64) + (((XT.ushr x3 (4 : Int32)) &&& (7 : Int32)).toInt64)) (own_f0_4 x0 x1 x2 x3))))) 1 (nar .boolean (own_f7 (own_f1_delete ((8 : Int64) + (((XT.ushr x3 (4 : Int32)) &&& (7 : Int32)).toInt64)) (own_f0_4 x0 x1 x2 x3))))) 2 (nar .boolean (own_f7 (own_f1_delete ((8 : Int64) + (((XT.ushr x3 (4 : Int32)) &&& (7 : Int32)).toInt64)) (own_f0_4 x0 x1 x2 x3))))) 2 fs148 mx148 am148 (-1 : Int32) 0 n0 T153.heap B153 (by decide)) (by decide) (W := 1) (by decide) (by decide) (by decide) (g := (mkF m 229 #[.val (.long x0), .second, .val (.long x1), .second, .val (.long x2), .second, .val (.int x3), .val (.int (own_f0_1 x0 x1 x2 x3)), .val (.int (x3 &&& (3 : Int32))), .val (.int (own_f0_2 x0 x1 x2 x3)), .val (.int (own_f0_3 x0 x1 x2 x3)), .val (.ref a5), .val (.ref a17), .val (.int (1 : Int32))] [(.long x0), (.ref a17), (.int (1 : Int32))])) rfl (by rw [hml]; rfl) (argsL := [(.long x0)]) (rest := [(.int (1 : Int32))]) (lenOf pd_8 rfl) rfl (by show 2 * 0 + _ ≤ _; exact Nat.le_of_eq rfl) (hb hby at_229)
                      obtain ⟨rfl, N156, K156, iA, S156, ixn156, lb156, hbl156, hiA156, B156, I156⟩ := q156
                      have Nn156 := Fr.app Nn153 N156
                      have IV156 := own_bld_inv (by decide) hbl156
                      refine own_Goes.step st156 ?_
                      show own_Goes _ _ _ _ _ _ _ (T156.setTop (mkF m 232 #[.val (.long x0), .second, .val (.long x1), .second, .val (.long x2), .second, .val (.int x3), .val (.int (own_f0_1 x0 x1 x2 x3)), .val (.int (x3 &&& (3 : Int32))), .val (.int (own_f0_2 x0 x1 x2 x3)), .val (.int (own_f0_3 x0 x1 x2 x3)), .val (.ref a5), .val (.ref a17), .val (.int (1 : Int32))] [(.int (own_bi (own_mem (own_setJ (own_setJ (own_setJ (fun _ => 0) 0 x0) 1 x1) 2 x2) 2 x0))), (.int (1 : Int32))]))
                      refine own_Goes.step (fun tq kq => XT.lloadN Y156.here hx rfl (hb hby at_232) rfl kq) ?_
                      show own_Goes _ _ _ _ _ _ _ (T156.setTop (mkF m 233 #[.val (.long x0), .second, .val (.long x1), .second, .val (.long x2), .second, .val (.int x3), .val (.int (own_f0_1 x0 x1 x2 x3)), .val (.int (x3 &&& (3 : Int32))), .val (.int (own_f0_2 x0 x1 x2 x3)), .val (.int (own_f0_3 x0 x1 x2 x3)), .val (.ref a5), .val (.ref a17), .val (.int (1 : Int32))] [(.long x0), (.int (own_bi (own_mem (own_setJ (own_setJ (own_setJ (fun _ => 0) 0 x0) 1 x1) 2 x2) 2 x0))), (.int (1 : Int32))]))
                      refine own_Goes.step (fun tq kq => XT.lloadN Y156.here hx rfl (hb hby at_233) rfl kq) ?_
                      show own_Goes _ _ _ _ _ _ _ (T156.setTop (mkF m 234 #[.val (.long x0), .second, .val (.long x1), .second, .val (.long x2), .second, .val (.int x3), .val (.int (own_f0_1 x0 x1 x2 x3)), .val (.int (x3 &&& (3 : Int32))), .val (.int (own_f0_2 x0 x1 x2 x3)), .val (.int (own_f0_3 x0 x1 x2 x3)), .val (.ref a5), .val (.ref a17), .val (.int (1 : Int32))] [(.long x0), (.long x0), (.int (own_bi (own_mem (own_setJ (own_setJ (own_setJ (fun _ => 0) 0 x0) 1 x1) 2 x2) 2 x0))), (.int (1 : Int32))]))
                      refine own_Goes.step (fun tq kq => XT.lloadN Y156.here hx rfl (hb hby at_234) rfl kq) ?_
                      show own_Goes _ _ _ _ _ _ _ (T156.setTop (mkF m 235 #[.val (.long x0), .second, .val (.long x1), .second, .val (.long x2), .second, .val (.int x3), .val (.int (own_f0_1 x0 x1 x2 x3)), .val (.int (x3 &&& (3 : Int32))), .val (.int (own_f0_2 x0 x1 x2 x3)), .val (.int (own_f0_3 x0 x1 x2 x3)), .val (.ref a5), .val (.ref a17), .val (.int (1 : Int32))] [(.long x1), (.long x0), (.long x0), (.int (own_bi (own_mem (own_setJ (own_setJ (own_setJ (fun _ => 0) 0 x0) 1 x1) 2 x2) 2 x0))), (.int (1 : Int32))]))
                      refine own_Goes.step (fun tq kq => XS.iload Y156.here hx rfl (hb hby at_235) rfl kq) ?_
                      show own_Goes _ _ _ _ _ _ _ (T156.setTop (mkF m 237 #[.val (.long x0), .second, .val (.long x1), .second, .val (.long x2), .second, .val (.int x3), .val (.int (own_f0_1 x0 x1 x2 x3)), .val (.int (x3 &&& (3 : Int32))), .val (.int (own_f0_2 x0 x1 x2 x3)), .val (.int (own_f0_3 x0 x1 x2 x3)), .val (.ref a5), .val (.ref a17), .val (.int (1 : Int32))] [(.int (own_f0_1 x0 x1 x2 x3)), (.long x1), (.long x0), (.long x0), (.int (own_bi (own_mem (own_setJ (own_setJ (own_setJ (fun _ => 0) 0 x0) 1 x1) 2 x2) 2 x0))), (.int (1 : Int32))]))
                      obtain ⟨w157, T157, L157, q157, Y157, st157⟩ := own_stat Y156 hx hZ rfl hown (own_at hw 99 rfl) (own_at hw 100 rfl) (own_at hw 101 rfl) (own_at hw 102 rfl) (by decide) (own_m15 l Z a0 hw [] x0 x0 x1 (own_f0_1 x0 x1 x2 x3) T156.heap ) (by decide) (W := 2) (by decide) (by decide) (by decide) (g := (mkF m 237 #[.val (.long x0), .second, .val (.long x1), .second, .val (.long x2), .second, .val (.int x3), .val (.int (own_f0_1 x0 x1 x2 x3)), .val (.int (x3 &&& (3 : Int32))), .val (.int (own_f0_2 x0 x1 x2 x3)), .val (.int (own_f0_3 x0 x1 x2 x3)), .val (.ref a5), .val (.ref a17), .val (.int (1 : Int32))] [(.int (own_f0_1 x0 x1 x2 x3)), (.long x1), (.long x0), (.long x0), (.int (own_bi (own_mem (own_setJ (own_setJ (own_setJ (fun _ => 0) 0 x0) 1 x1) 2 x2) 2 x0))), (.int (1 : Int32))])) rfl (by rw [hml]; rfl) (argsL := [(.long x0), (.long x0), (.long x1), (.int (own_f0_1 x0 x1 x2 x3))]) (rest := [(.int (own_bi (own_mem (own_setJ (own_setJ (own_setJ (fun _ => 0) 0 x0) 1 x1) 2 x2) 2 x0))), (.int (1 : Int32))]) (lenOf pd_15 rfl) rfl (by show 2 * 0 + _ ≤ _; exact Nat.le_of_eq rfl) (hb hby at_237)
                      obtain ⟨e157, X157⟩ := own_clean q157 Y157 rfl rfl
                      obtain ⟨rfl, -, -⟩ := q157
                      refine own_Goes.step st157 ?_
                      show own_Goes _ _ _ _ _ _ _ (T157.setTop (mkF m 240 #[.val (.long x0), .second, .val (.long x1), .second, .val (.long x2), .second, .val (.int x3), .val (.int (own_f0_1 x0 x1 x2 x3)), .val (.int (x3 &&& (3 : Int32))), .val (.int (own_f0_2 x0 x1 x2 x3)), .val (.int (own_f0_3 x0 x1 x2 x3)), .val (.ref a5), .val (.ref a17), .val (.int (1 : Int32))] [(.int (own_f15 x0 x0 x1 (own_f0_1 x0 x1 x2 x3))), (.int (own_bi (own_mem (own_setJ (own_setJ (own_setJ (fun _ => 0) 0 x0) 1 x1) 2 x2) 2 x0))), (.int (1 : Int32))]))
                      refine own_Goes.step (fun tq kq => XS.icmpNo X157.here hx rfl (hb hby at_240) rfl (XT.ii_ne_f (own_held2 rfl rfl hc88)) kq) ?_
                      show own_Goes _ _ _ _ _ _ _ (T157.setTop (mkF m 243 #[.val (.long x0), .second, .val (.long x1), .second, .val (.long x2), .second, .val (.int x3), .val (.int (own_f0_1 x0 x1 x2 x3)), .val (.int (x3 &&& (3 : Int32))), .val (.int (own_f0_2 x0 x1 x2 x3)), .val (.int (own_f0_3 x0 x1 x2 x3)), .val (.ref a5), .val (.ref a17), .val (.int (1 : Int32))] [(.int (1 : Int32))]))
                      refine own_Goes.step (fun tq kq => XT.iconstV X157.here hx rfl (1 : Int32) (hb hby at_243) (by decide) kq) ?_
                      show own_Goes _ _ _ _ _ _ _ (T157.setTop (mkF m 244 #[.val (.long x0), .second, .val (.long x1), .second, .val (.long x2), .second, .val (.int x3), .val (.int (own_f0_1 x0 x1 x2 x3)), .val (.int (x3 &&& (3 : Int32))), .val (.int (own_f0_2 x0 x1 x2 x3)), .val (.int (own_f0_3 x0 x1 x2 x3)), .val (.ref a5), .val (.ref a17), .val (.int (1 : Int32))] [(.int (1 : Int32)), (.int (1 : Int32))]))
                      refine own_Goes.step (fun tq kq => XS.goto X157.here hx rfl (pc0 := 244) (pc' := 248) rfl (hb hby at_244) (by decide) (by decide) kq) ?_
                      show own_Goes _ _ _ _ _ _ _ (T157.setTop (mkF m 248 #[.val (.long x0), .second, .val (.long x1), .second, .val (.long x2), .second, .val (.int x3), .val (.int (own_f0_1 x0 x1 x2 x3)), .val (.int (x3 &&& (3 : Int32))), .val (.int (own_f0_2 x0 x1 x2 x3)), .val (.int (own_f0_3 x0 x1 x2 x3)), .val (.ref a5), .val (.ref a17), .val (.int (1 : Int32))] [(.int (1 : Int32)), (.int (1 : Int32))]))
                      refine own_Goes.step (fun tq kq => XS.iand X157.here hx rfl (hb hby at_248) rfl kq) ?_
                      show own_Goes _ _ _ _ _ _ _ (T157.setTop (mkF m 249 #[.val (.long x0), .second, .val (.long x1), .second, .val (.long x2), .second, .val (.int x3), .val (.int (own_f0_1 x0 x1 x2 x3)), .val (.int (x3 &&& (3 : Int32))), .val (.int (own_f0_2 x0 x1 x2 x3)), .val (.int (own_f0_3 x0 x1 x2 x3)), .val (.ref a5), .val (.ref a17), .val (.int (1 : Int32))] [(.int (1 : Int32))]))
                      refine own_Goes.step (fun tq kq => XS.istore X157.here hx rfl (hb hby at_249) rfl (l' := #[.val (.long x0), .second, .val (.long x1), .second, .val (.long x2), .second, .val (.int x3), .val (.int (own_f0_1 x0 x1 x2 x3)), .val (.int (x3 &&& (3 : Int32))), .val (.int (own_f0_2 x0 x1 x2 x3)), .val (.int (own_f0_3 x0 x1 x2 x3)), .val (.ref a5), .val (.ref a17), .val (.int (1 : Int32))]) rfl kq) ?_
                      show own_Goes _ _ _ _ _ _ _ (T157.setTop (mkF m 251 #[.val (.long x0), .second, .val (.long x1), .second, .val (.long x2), .second, .val (.int x3), .val (.int (own_f0_1 x0 x1 x2 x3)), .val (.int (x3 &&& (3 : Int32))), .val (.int (own_f0_2 x0 x1 x2 x3)), .val (.int (own_f0_3 x0 x1 x2 x3)), .val (.ref a5), .val (.ref a17), .val (.int (1 : Int32))] []))
                      refine own_Goes.step (fun tq kq => XS.iload X157.here hx rfl (hb hby at_251) rfl kq) ?_
                      show own_Goes _ _ _ _ _ _ _ (T157.setTop (mkF m 253 #[.val (.long x0), .second, .val (.long x1), .second, .val (.long x2), .second, .val (.int x3), .val (.int (own_f0_1 x0 x1 x2 x3)), .val (.int (x3 &&& (3 : Int32))), .val (.int (own_f0_2 x0 x1 x2 x3)), .val (.int (own_f0_3 x0 x1 x2 x3)), .val (.ref a5), .val (.ref a17), .val (.int (1 : Int32))] [(.int (1 : Int32))]))
                      refine own_Goes.step (fun tq kq => XS.aload X157.here hx rfl (hb hby at_253) rfl rfl kq) ?_
                      show own_Goes _ _ _ _ _ _ _ (T157.setTop (mkF m 255 #[.val (.long x0), .second, .val (.long x1), .second, .val (.long x2), .second, .val (.int x3), .val (.int (own_f0_1 x0 x1 x2 x3)), .val (.int (x3 &&& (3 : Int32))), .val (.int (own_f0_2 x0 x1 x2 x3)), .val (.int (own_f0_3 x0 x1 x2 x3)), .val (.ref a5), .val (.ref a17), .val (.int (1 : Int32))] [(.ref a17), (.int (1 : Int32))]))
                      refine own_Goes.step (fun tq kq => XT.lloadN X157.here hx rfl (hb hby at_255) rfl kq) ?_
                      show own_Goes _ _ _ _ _ _ _ (T157.setTop (mkF m 256 #[.val (.long x0), .second, .val (.long x1), .second, .val (.long x2), .second, .val (.int x3), .val (.int (own_f0_1 x0 x1 x2 x3)), .val (.int (x3 &&& (3 : Int32))), .val (.int (own_f0_2 x0 x1 x2 x3)), .val (.int (own_f0_3 x0 x1 x2 x3)), .val (.ref a5), .val (.ref a17), .val (.int (1 : Int32))] [(.long x1), (.ref a17), (.int (1 : Int32))]))
                      obtain ⟨t158, ht158, hm158⟩ := IV156.find (by decide) x1
                      have hr158 := IV156.says hm158
                      obtain ⟨w158, T158, L158, q158, Y158, st158⟩ := own_virt X157 hx hZ e157 (own_W.exa B156) hown (own_at hw 64 rfl) (own_at hw 65 rfl) (own_at hw 67 rfl) (own_at hw 66 rfl) (own_at hw 21 rfl) (own_at hw 68 rfl) (by decide) (own_m8s l Z a0 hw [] a17 x1 kA sA dA pA (own_setJ (own_setJ (own_setJ (fun _ => 0) 0 x0) 1 x1) 2 x2) (own_setJ (own_setJ (own_setJ (fun _ => 0) 0 (own_f1_size ((8 : Int64) + (((XT.ushr x3 (4 : Int32)) &&& (7 : Int32)).toInt64)) (own_f0_4 x0 x1 x2 x3))) 1 (own_f1_size ((8 : Int64) + (((XT.ushr x3 (4 : Int32)) &&& (7 : Int32)).toInt64)) (own_f0_4 x0 x1 x2 x3))) 2 (own_f1_size ((8 : Int64) + (((XT.ushr x3 (4 : Int32)) &&& (7 : Int32)).toInt64)) (own_f0_4 x0 x1 x2 x3))) (own_set (own_set (own_set (fun _ => 0) 0 (nar .boolean (own_f7 (own_f1_delete ((8 : Int64) + (((XT.ushr x3 (4 : Int32)) &&& (7 : Int32)).toInt64)) (own_f0_4 x0 x1 x2 x3))))) 1 (nar .boolean (own_f7 (own_f1_delete ((8 : Int64) + (((XT.ushr x3 (4 : Int32)) &&& (7 : Int32)).toInt64)) (own_f0_4 x0 x1 x2 x3))))) 2 (nar .boolean (own_f7 (own_f1_delete ((8 : Int64) + (((XT.ushr x3 (4 : Int32)) &&& (7 : Int32)).toInt64)) (own_f0_4 x0 x1 x2 x3))))) 2 fs148 mx148 am148 lb156 (Int32.ofNat ixn156) iA S156 t158 (own_mem (own_setJ (own_setJ (own_setJ (fun _ => 0) 0 x0) 1 x1) 2 x2) 2 x1) n0 T156.heap B156 I156 (IV156.1.ok (by decide)) hm158 ht158 hr158) (by decide) (W := 1) (by decide) (by decide) (by decide) (g := (mkF m 256 #[.val (.long x0), .second, .val (.long x1), .second, .val (.long x2), .second, .val (.int x3), .val (.int (own_f0_1 x0 x1 x2 x3)), .val (.int (x3 &&& (3 : Int32))), .val (.int (own_f0_2 x0 x1 x2 x3)), .val (.int (own_f0_3 x0 x1 x2 x3)), .val (.ref a5), .val (.ref a17), .val (.int (1 : Int32))] [(.long x1), (.ref a17), (.int (1 : Int32))])) rfl (by rw [hml]; rfl) (argsL := [(.long x1)]) (rest := [(.int (1 : Int32))]) (lenOf pd_8 rfl) rfl (by show 2 * 0 + _ ≤ _; exact Nat.le_of_eq rfl) (hb hby at_256)
                      obtain ⟨e158, X158⟩ := own_clean q158 Y158 rfl rfl
                      obtain ⟨rfl, -, -⟩ := q158
                      refine own_Goes.step st158 ?_
                      show own_Goes _ _ _ _ _ _ _ (T158.setTop (mkF m 259 #[.val (.long x0), .second, .val (.long x1), .second, .val (.long x2), .second, .val (.int x3), .val (.int (own_f0_1 x0 x1 x2 x3)), .val (.int (x3 &&& (3 : Int32))), .val (.int (own_f0_2 x0 x1 x2 x3)), .val (.int (own_f0_3 x0 x1 x2 x3)), .val (.ref a5), .val (.ref a17), .val (.int (1 : Int32))] [(.int (own_bi (own_mem (own_setJ (own_setJ (own_setJ (fun _ => 0) 0 x0) 1 x1) 2 x2) 2 x1))), (.int (1 : Int32))]))
                      refine own_Goes.step (fun tq kq => XT.lloadN X158.here hx rfl (hb hby at_259) rfl kq) ?_
                      show own_Goes _ _ _ _ _ _ _ (T158.setTop (mkF m 260 #[.val (.long x0), .second, .val (.long x1), .second, .val (.long x2), .second, .val (.int x3), .val (.int (own_f0_1 x0 x1 x2 x3)), .val (.int (x3 &&& (3 : Int32))), .val (.int (own_f0_2 x0 x1 x2 x3)), .val (.int (own_f0_3 x0 x1 x2 x3)), .val (.ref a5), .val (.ref a17), .val (.int (1 : Int32))] [(.long x1), (.int (own_bi (own_mem (own_setJ (own_setJ (own_setJ (fun _ => 0) 0 x0) 1 x1) 2 x2) 2 x1))), (.int (1 : Int32))]))
                      refine own_Goes.step (fun tq kq => XT.lloadN X158.here hx rfl (hb hby at_260) rfl kq) ?_
                      show own_Goes _ _ _ _ _ _ _ (T158.setTop (mkF m 261 #[.val (.long x0), .second, .val (.long x1), .second, .val (.long x2), .second, .val (.int x3), .val (.int (own_f0_1 x0 x1 x2 x3)), .val (.int (x3 &&& (3 : Int32))), .val (.int (own_f0_2 x0 x1 x2 x3)), .val (.int (own_f0_3 x0 x1 x2 x3)), .val (.ref a5), .val (.ref a17), .val (.int (1 : Int32))] [(.long x0), (.long x1), (.int (own_bi (own_mem (own_setJ (own_setJ (own_setJ (fun _ => 0) 0 x0) 1 x1) 2 x2) 2 x1))), (.int (1 : Int32))]))
                      refine own_Goes.step (fun tq kq => XT.lloadN X158.here hx rfl (hb hby at_261) rfl kq) ?_
                      show own_Goes _ _ _ _ _ _ _ (T158.setTop (mkF m 262 #[.val (.long x0), .second, .val (.long x1), .second, .val (.long x2), .second, .val (.int x3), .val (.int (own_f0_1 x0 x1 x2 x3)), .val (.int (x3 &&& (3 : Int32))), .val (.int (own_f0_2 x0 x1 x2 x3)), .val (.int (own_f0_3 x0 x1 x2 x3)), .val (.ref a5), .val (.ref a17), .val (.int (1 : Int32))] [(.long x1), (.long x0), (.long x1), (.int (own_bi (own_mem (own_setJ (own_setJ (own_setJ (fun _ => 0) 0 x0) 1 x1) 2 x2) 2 x1))), (.int (1 : Int32))]))
                      refine own_Goes.step (fun tq kq => XS.iload X158.here hx rfl (hb hby at_262) rfl kq) ?_
                      show own_Goes _ _ _ _ _ _ _ (T158.setTop (mkF m 264 #[.val (.long x0), .second, .val (.long x1), .second, .val (.long x2), .second, .val (.int x3), .val (.int (own_f0_1 x0 x1 x2 x3)), .val (.int (x3 &&& (3 : Int32))), .val (.int (own_f0_2 x0 x1 x2 x3)), .val (.int (own_f0_3 x0 x1 x2 x3)), .val (.ref a5), .val (.ref a17), .val (.int (1 : Int32))] [(.int (own_f0_1 x0 x1 x2 x3)), (.long x1), (.long x0), (.long x1), (.int (own_bi (own_mem (own_setJ (own_setJ (own_setJ (fun _ => 0) 0 x0) 1 x1) 2 x2) 2 x1))), (.int (1 : Int32))]))
                      obtain ⟨w159, T159, L159, q159, Y159, st159⟩ := own_stat X158 hx hZ e158 hown (own_at hw 99 rfl) (own_at hw 100 rfl) (own_at hw 101 rfl) (own_at hw 102 rfl) (by decide) (own_m15 l Z a0 hw [] x1 x0 x1 (own_f0_1 x0 x1 x2 x3) T156.heap ) (by decide) (W := 2) (by decide) (by decide) (by decide) (g := (mkF m 264 #[.val (.long x0), .second, .val (.long x1), .second, .val (.long x2), .second, .val (.int x3), .val (.int (own_f0_1 x0 x1 x2 x3)), .val (.int (x3 &&& (3 : Int32))), .val (.int (own_f0_2 x0 x1 x2 x3)), .val (.int (own_f0_3 x0 x1 x2 x3)), .val (.ref a5), .val (.ref a17), .val (.int (1 : Int32))] [(.int (own_f0_1 x0 x1 x2 x3)), (.long x1), (.long x0), (.long x1), (.int (own_bi (own_mem (own_setJ (own_setJ (own_setJ (fun _ => 0) 0 x0) 1 x1) 2 x2) 2 x1))), (.int (1 : Int32))])) rfl (by rw [hml]; rfl) (argsL := [(.long x1), (.long x0), (.long x1), (.int (own_f0_1 x0 x1 x2 x3))]) (rest := [(.int (own_bi (own_mem (own_setJ (own_setJ (own_setJ (fun _ => 0) 0 x0) 1 x1) 2 x2) 2 x1))), (.int (1 : Int32))]) (lenOf pd_15 rfl) rfl (by show 2 * 0 + _ ≤ _; exact Nat.le_of_eq rfl) (hb hby at_264)
                      obtain ⟨e159, X159⟩ := own_clean q159 Y159 rfl rfl
                      obtain ⟨rfl, -, -⟩ := q159
                      refine own_Goes.step st159 ?_
                      show own_Goes _ _ _ _ _ _ _ (T159.setTop (mkF m 267 #[.val (.long x0), .second, .val (.long x1), .second, .val (.long x2), .second, .val (.int x3), .val (.int (own_f0_1 x0 x1 x2 x3)), .val (.int (x3 &&& (3 : Int32))), .val (.int (own_f0_2 x0 x1 x2 x3)), .val (.int (own_f0_3 x0 x1 x2 x3)), .val (.ref a5), .val (.ref a17), .val (.int (1 : Int32))] [(.int (own_f15 x1 x0 x1 (own_f0_1 x0 x1 x2 x3))), (.int (own_bi (own_mem (own_setJ (own_setJ (own_setJ (fun _ => 0) 0 x0) 1 x1) 2 x2) 2 x1))), (.int (1 : Int32))]))
                      refine own_Goes.step (fun tq kq => XS.icmpNo X159.here hx rfl (hb hby at_267) rfl (XT.ii_ne_f (own_held2 rfl rfl hc88)) kq) ?_
                      show own_Goes _ _ _ _ _ _ _ (T159.setTop (mkF m 270 #[.val (.long x0), .second, .val (.long x1), .second, .val (.long x2), .second, .val (.int x3), .val (.int (own_f0_1 x0 x1 x2 x3)), .val (.int (x3 &&& (3 : Int32))), .val (.int (own_f0_2 x0 x1 x2 x3)), .val (.int (own_f0_3 x0 x1 x2 x3)), .val (.ref a5), .val (.ref a17), .val (.int (1 : Int32))] [(.int (1 : Int32))]))
                      refine own_Goes.step (fun tq kq => XT.iconstV X159.here hx rfl (1 : Int32) (hb hby at_270) (by decide) kq) ?_
                      show own_Goes _ _ _ _ _ _ _ (T159.setTop (mkF m 271 #[.val (.long x0), .second, .val (.long x1), .second, .val (.long x2), .second, .val (.int x3), .val (.int (own_f0_1 x0 x1 x2 x3)), .val (.int (x3 &&& (3 : Int32))), .val (.int (own_f0_2 x0 x1 x2 x3)), .val (.int (own_f0_3 x0 x1 x2 x3)), .val (.ref a5), .val (.ref a17), .val (.int (1 : Int32))] [(.int (1 : Int32)), (.int (1 : Int32))]))
                      refine own_Goes.step (fun tq kq => XS.goto X159.here hx rfl (pc0 := 271) (pc' := 275) rfl (hb hby at_271) (by decide) (by decide) kq) ?_
                      show own_Goes _ _ _ _ _ _ _ (T159.setTop (mkF m 275 #[.val (.long x0), .second, .val (.long x1), .second, .val (.long x2), .second, .val (.int x3), .val (.int (own_f0_1 x0 x1 x2 x3)), .val (.int (x3 &&& (3 : Int32))), .val (.int (own_f0_2 x0 x1 x2 x3)), .val (.int (own_f0_3 x0 x1 x2 x3)), .val (.ref a5), .val (.ref a17), .val (.int (1 : Int32))] [(.int (1 : Int32)), (.int (1 : Int32))]))
                      refine own_Goes.step (fun tq kq => XS.iand X159.here hx rfl (hb hby at_275) rfl kq) ?_
                      show own_Goes _ _ _ _ _ _ _ (T159.setTop (mkF m 276 #[.val (.long x0), .second, .val (.long x1), .second, .val (.long x2), .second, .val (.int x3), .val (.int (own_f0_1 x0 x1 x2 x3)), .val (.int (x3 &&& (3 : Int32))), .val (.int (own_f0_2 x0 x1 x2 x3)), .val (.int (own_f0_3 x0 x1 x2 x3)), .val (.ref a5), .val (.ref a17), .val (.int (1 : Int32))] [(.int (1 : Int32))]))
                      refine own_Goes.step (fun tq kq => XS.istore X159.here hx rfl (hb hby at_276) rfl (l' := #[.val (.long x0), .second, .val (.long x1), .second, .val (.long x2), .second, .val (.int x3), .val (.int (own_f0_1 x0 x1 x2 x3)), .val (.int (x3 &&& (3 : Int32))), .val (.int (own_f0_2 x0 x1 x2 x3)), .val (.int (own_f0_3 x0 x1 x2 x3)), .val (.ref a5), .val (.ref a17), .val (.int (1 : Int32))]) rfl kq) ?_
                      show own_Goes _ _ _ _ _ _ _ (T159.setTop (mkF m 278 #[.val (.long x0), .second, .val (.long x1), .second, .val (.long x2), .second, .val (.int x3), .val (.int (own_f0_1 x0 x1 x2 x3)), .val (.int (x3 &&& (3 : Int32))), .val (.int (own_f0_2 x0 x1 x2 x3)), .val (.int (own_f0_3 x0 x1 x2 x3)), .val (.ref a5), .val (.ref a17), .val (.int (1 : Int32))] []))
                      refine own_Goes.step (fun tq kq => XS.iload X159.here hx rfl (hb hby at_278) rfl kq) ?_
                      show own_Goes _ _ _ _ _ _ _ (T159.setTop (mkF m 280 #[.val (.long x0), .second, .val (.long x1), .second, .val (.long x2), .second, .val (.int x3), .val (.int (own_f0_1 x0 x1 x2 x3)), .val (.int (x3 &&& (3 : Int32))), .val (.int (own_f0_2 x0 x1 x2 x3)), .val (.int (own_f0_3 x0 x1 x2 x3)), .val (.ref a5), .val (.ref a17), .val (.int (1 : Int32))] [(.int (1 : Int32))]))
                      refine own_Goes.step (fun tq kq => XS.aload X159.here hx rfl (hb hby at_280) rfl rfl kq) ?_
                      show own_Goes _ _ _ _ _ _ _ (T159.setTop (mkF m 282 #[.val (.long x0), .second, .val (.long x1), .second, .val (.long x2), .second, .val (.int x3), .val (.int (own_f0_1 x0 x1 x2 x3)), .val (.int (x3 &&& (3 : Int32))), .val (.int (own_f0_2 x0 x1 x2 x3)), .val (.int (own_f0_3 x0 x1 x2 x3)), .val (.ref a5), .val (.ref a17), .val (.int (1 : Int32))] [(.ref a17), (.int (1 : Int32))]))
                      refine own_Goes.step (fun tq kq => XT.lload X159.here hx rfl (hb hby at_282) rfl kq) ?_
                      show own_Goes _ _ _ _ _ _ _ (T159.setTop (mkF m 284 #[.val (.long x0), .second, .val (.long x1), .second, .val (.long x2), .second, .val (.int x3), .val (.int (own_f0_1 x0 x1 x2 x3)), .val (.int (x3 &&& (3 : Int32))), .val (.int (own_f0_2 x0 x1 x2 x3)), .val (.int (own_f0_3 x0 x1 x2 x3)), .val (.ref a5), .val (.ref a17), .val (.int (1 : Int32))] [(.long x2), (.ref a17), (.int (1 : Int32))]))
                      obtain ⟨t160, ht160, hm160⟩ := IV156.find (by decide) x2
                      have hr160 := IV156.says hm160
                      obtain ⟨w160, T160, L160, q160, Y160, st160⟩ := own_virt X159 hx hZ e159 (own_W.exa B156) hown (own_at hw 64 rfl) (own_at hw 65 rfl) (own_at hw 67 rfl) (own_at hw 66 rfl) (own_at hw 21 rfl) (own_at hw 68 rfl) (by decide) (own_m8s l Z a0 hw [] a17 x2 kA sA dA pA (own_setJ (own_setJ (own_setJ (fun _ => 0) 0 x0) 1 x1) 2 x2) (own_setJ (own_setJ (own_setJ (fun _ => 0) 0 (own_f1_size ((8 : Int64) + (((XT.ushr x3 (4 : Int32)) &&& (7 : Int32)).toInt64)) (own_f0_4 x0 x1 x2 x3))) 1 (own_f1_size ((8 : Int64) + (((XT.ushr x3 (4 : Int32)) &&& (7 : Int32)).toInt64)) (own_f0_4 x0 x1 x2 x3))) 2 (own_f1_size ((8 : Int64) + (((XT.ushr x3 (4 : Int32)) &&& (7 : Int32)).toInt64)) (own_f0_4 x0 x1 x2 x3))) (own_set (own_set (own_set (fun _ => 0) 0 (nar .boolean (own_f7 (own_f1_delete ((8 : Int64) + (((XT.ushr x3 (4 : Int32)) &&& (7 : Int32)).toInt64)) (own_f0_4 x0 x1 x2 x3))))) 1 (nar .boolean (own_f7 (own_f1_delete ((8 : Int64) + (((XT.ushr x3 (4 : Int32)) &&& (7 : Int32)).toInt64)) (own_f0_4 x0 x1 x2 x3))))) 2 (nar .boolean (own_f7 (own_f1_delete ((8 : Int64) + (((XT.ushr x3 (4 : Int32)) &&& (7 : Int32)).toInt64)) (own_f0_4 x0 x1 x2 x3))))) 2 fs148 mx148 am148 lb156 (Int32.ofNat ixn156) iA S156 t160 (own_mem (own_setJ (own_setJ (own_setJ (fun _ => 0) 0 x0) 1 x1) 2 x2) 2 x2) n0 T156.heap B156 I156 (IV156.1.ok (by decide)) hm160 ht160 hr160) (by decide) (W := 1) (by decide) (by decide) (by decide) (g := (mkF m 284 #[.val (.long x0), .second, .val (.long x1), .second, .val (.long x2), .second, .val (.int x3), .val (.int (own_f0_1 x0 x1 x2 x3)), .val (.int (x3 &&& (3 : Int32))), .val (.int (own_f0_2 x0 x1 x2 x3)), .val (.int (own_f0_3 x0 x1 x2 x3)), .val (.ref a5), .val (.ref a17), .val (.int (1 : Int32))] [(.long x2), (.ref a17), (.int (1 : Int32))])) rfl (by rw [hml]; rfl) (argsL := [(.long x2)]) (rest := [(.int (1 : Int32))]) (lenOf pd_8 rfl) rfl (by show 2 * 0 + _ ≤ _; exact Nat.le_of_eq rfl) (hb hby at_284)
                      obtain ⟨e160, X160⟩ := own_clean q160 Y160 rfl rfl
                      obtain ⟨rfl, -, -⟩ := q160
                      refine own_Goes.step st160 ?_
                      show own_Goes _ _ _ _ _ _ _ (T160.setTop (mkF m 287 #[.val (.long x0), .second, .val (.long x1), .second, .val (.long x2), .second, .val (.int x3), .val (.int (own_f0_1 x0 x1 x2 x3)), .val (.int (x3 &&& (3 : Int32))), .val (.int (own_f0_2 x0 x1 x2 x3)), .val (.int (own_f0_3 x0 x1 x2 x3)), .val (.ref a5), .val (.ref a17), .val (.int (1 : Int32))] [(.int (own_bi (own_mem (own_setJ (own_setJ (own_setJ (fun _ => 0) 0 x0) 1 x1) 2 x2) 2 x2))), (.int (1 : Int32))]))
                      refine own_Goes.step (fun tq kq => XT.lload X160.here hx rfl (hb hby at_287) rfl kq) ?_
                      show own_Goes _ _ _ _ _ _ _ (T160.setTop (mkF m 289 #[.val (.long x0), .second, .val (.long x1), .second, .val (.long x2), .second, .val (.int x3), .val (.int (own_f0_1 x0 x1 x2 x3)), .val (.int (x3 &&& (3 : Int32))), .val (.int (own_f0_2 x0 x1 x2 x3)), .val (.int (own_f0_3 x0 x1 x2 x3)), .val (.ref a5), .val (.ref a17), .val (.int (1 : Int32))] [(.long x2), (.int (own_bi (own_mem (own_setJ (own_setJ (own_setJ (fun _ => 0) 0 x0) 1 x1) 2 x2) 2 x2))), (.int (1 : Int32))]))
                      refine own_Goes.step (fun tq kq => XT.lloadN X160.here hx rfl (hb hby at_289) rfl kq) ?_
                      show own_Goes _ _ _ _ _ _ _ (T160.setTop (mkF m 290 #[.val (.long x0), .second, .val (.long x1), .second, .val (.long x2), .second, .val (.int x3), .val (.int (own_f0_1 x0 x1 x2 x3)), .val (.int (x3 &&& (3 : Int32))), .val (.int (own_f0_2 x0 x1 x2 x3)), .val (.int (own_f0_3 x0 x1 x2 x3)), .val (.ref a5), .val (.ref a17), .val (.int (1 : Int32))] [(.long x0), (.long x2), (.int (own_bi (own_mem (own_setJ (own_setJ (own_setJ (fun _ => 0) 0 x0) 1 x1) 2 x2) 2 x2))), (.int (1 : Int32))]))
                      refine own_Goes.step (fun tq kq => XT.lloadN X160.here hx rfl (hb hby at_290) rfl kq) ?_
                      show own_Goes _ _ _ _ _ _ _ (T160.setTop (mkF m 291 #[.val (.long x0), .second, .val (.long x1), .second, .val (.long x2), .second, .val (.int x3), .val (.int (own_f0_1 x0 x1 x2 x3)), .val (.int (x3 &&& (3 : Int32))), .val (.int (own_f0_2 x0 x1 x2 x3)), .val (.int (own_f0_3 x0 x1 x2 x3)), .val (.ref a5), .val (.ref a17), .val (.int (1 : Int32))] [(.long x1), (.long x0), (.long x2), (.int (own_bi (own_mem (own_setJ (own_setJ (own_setJ (fun _ => 0) 0 x0) 1 x1) 2 x2) 2 x2))), (.int (1 : Int32))]))
                      refine own_Goes.step (fun tq kq => XS.iload X160.here hx rfl (hb hby at_291) rfl kq) ?_
                      show own_Goes _ _ _ _ _ _ _ (T160.setTop (mkF m 293 #[.val (.long x0), .second, .val (.long x1), .second, .val (.long x2), .second, .val (.int x3), .val (.int (own_f0_1 x0 x1 x2 x3)), .val (.int (x3 &&& (3 : Int32))), .val (.int (own_f0_2 x0 x1 x2 x3)), .val (.int (own_f0_3 x0 x1 x2 x3)), .val (.ref a5), .val (.ref a17), .val (.int (1 : Int32))] [(.int (own_f0_1 x0 x1 x2 x3)), (.long x1), (.long x0), (.long x2), (.int (own_bi (own_mem (own_setJ (own_setJ (own_setJ (fun _ => 0) 0 x0) 1 x1) 2 x2) 2 x2))), (.int (1 : Int32))]))
                      obtain ⟨w161, T161, L161, q161, Y161, st161⟩ := own_stat X160 hx hZ e160 hown (own_at hw 99 rfl) (own_at hw 100 rfl) (own_at hw 101 rfl) (own_at hw 102 rfl) (by decide) (own_m15 l Z a0 hw [] x2 x0 x1 (own_f0_1 x0 x1 x2 x3) T156.heap ) (by decide) (W := 2) (by decide) (by decide) (by decide) (g := (mkF m 293 #[.val (.long x0), .second, .val (.long x1), .second, .val (.long x2), .second, .val (.int x3), .val (.int (own_f0_1 x0 x1 x2 x3)), .val (.int (x3 &&& (3 : Int32))), .val (.int (own_f0_2 x0 x1 x2 x3)), .val (.int (own_f0_3 x0 x1 x2 x3)), .val (.ref a5), .val (.ref a17), .val (.int (1 : Int32))] [(.int (own_f0_1 x0 x1 x2 x3)), (.long x1), (.long x0), (.long x2), (.int (own_bi (own_mem (own_setJ (own_setJ (own_setJ (fun _ => 0) 0 x0) 1 x1) 2 x2) 2 x2))), (.int (1 : Int32))])) rfl (by rw [hml]; rfl) (argsL := [(.long x2), (.long x0), (.long x1), (.int (own_f0_1 x0 x1 x2 x3))]) (rest := [(.int (own_bi (own_mem (own_setJ (own_setJ (own_setJ (fun _ => 0) 0 x0) 1 x1) 2 x2) 2 x2))), (.int (1 : Int32))]) (lenOf pd_15 rfl) rfl (by show 2 * 0 + _ ≤ _; exact Nat.le_of_eq rfl) (hb hby at_293)
                      obtain ⟨e161, X161⟩ := own_clean q161 Y161 rfl rfl
                      obtain ⟨rfl, -, -⟩ := q161
                      refine own_Goes.step st161 ?_
                      show own_Goes _ _ _ _ _ _ _ (T161.setTop (mkF m 296 #[.val (.long x0), .second, .val (.long x1), .second, .val (.long x2), .second, .val (.int x3), .val (.int (own_f0_1 x0 x1 x2 x3)), .val (.int (x3 &&& (3 : Int32))), .val (.int (own_f0_2 x0 x1 x2 x3)), .val (.int (own_f0_3 x0 x1 x2 x3)), .val (.ref a5), .val (.ref a17), .val (.int (1 : Int32))] [(.int (own_f15 x2 x0 x1 (own_f0_1 x0 x1 x2 x3))), (.int (own_bi (own_mem (own_setJ (own_setJ (own_setJ (fun _ => 0) 0 x0) 1 x1) 2 x2) 2 x2))), (.int (1 : Int32))]))
                      refine own_Goes.step (fun tq kq => XS.icmpNo X161.here hx rfl (hb hby at_296) rfl (XT.ii_ne_f (own_held2 rfl rfl hc88)) kq) ?_
                      show own_Goes _ _ _ _ _ _ _ (T161.setTop (mkF m 299 #[.val (.long x0), .second, .val (.long x1), .second, .val (.long x2), .second, .val (.int x3), .val (.int (own_f0_1 x0 x1 x2 x3)), .val (.int (x3 &&& (3 : Int32))), .val (.int (own_f0_2 x0 x1 x2 x3)), .val (.int (own_f0_3 x0 x1 x2 x3)), .val (.ref a5), .val (.ref a17), .val (.int (1 : Int32))] [(.int (1 : Int32))]))
                      refine own_Goes.step (fun tq kq => XT.iconstV X161.here hx rfl (1 : Int32) (hb hby at_299) (by decide) kq) ?_
                      show own_Goes _ _ _ _ _ _ _ (T161.setTop (mkF m 300 #[.val (.long x0), .second, .val (.long x1), .second, .val (.long x2), .second, .val (.int x3), .val (.int (own_f0_1 x0 x1 x2 x3)), .val (.int (x3 &&& (3 : Int32))), .val (.int (own_f0_2 x0 x1 x2 x3)), .val (.int (own_f0_3 x0 x1 x2 x3)), .val (.ref a5), .val (.ref a17), .val (.int (1 : Int32))] [(.int (1 : Int32)), (.int (1 : Int32))]))
                      refine own_Goes.step (fun tq kq => XS.goto X161.here hx rfl (pc0 := 300) (pc' := 304) rfl (hb hby at_300) (by decide) (by decide) kq) ?_
                      show own_Goes _ _ _ _ _ _ _ (T161.setTop (mkF m 304 #[.val (.long x0), .second, .val (.long x1), .second, .val (.long x2), .second, .val (.int x3), .val (.int (own_f0_1 x0 x1 x2 x3)), .val (.int (x3 &&& (3 : Int32))), .val (.int (own_f0_2 x0 x1 x2 x3)), .val (.int (own_f0_3 x0 x1 x2 x3)), .val (.ref a5), .val (.ref a17), .val (.int (1 : Int32))] [(.int (1 : Int32)), (.int (1 : Int32))]))
                      refine own_Goes.step (fun tq kq => XS.iand X161.here hx rfl (hb hby at_304) rfl kq) ?_
                      show own_Goes _ _ _ _ _ _ _ (T161.setTop (mkF m 305 #[.val (.long x0), .second, .val (.long x1), .second, .val (.long x2), .second, .val (.int x3), .val (.int (own_f0_1 x0 x1 x2 x3)), .val (.int (x3 &&& (3 : Int32))), .val (.int (own_f0_2 x0 x1 x2 x3)), .val (.int (own_f0_3 x0 x1 x2 x3)), .val (.ref a5), .val (.ref a17), .val (.int (1 : Int32))] [(.int (1 : Int32))]))
                      refine own_Goes.step (fun tq kq => XS.istore X161.here hx rfl (hb hby at_305) rfl (l' := #[.val (.long x0), .second, .val (.long x1), .second, .val (.long x2), .second, .val (.int x3), .val (.int (own_f0_1 x0 x1 x2 x3)), .val (.int (x3 &&& (3 : Int32))), .val (.int (own_f0_2 x0 x1 x2 x3)), .val (.int (own_f0_3 x0 x1 x2 x3)), .val (.ref a5), .val (.ref a17), .val (.int (1 : Int32))]) rfl kq) ?_
                      show own_Goes _ _ _ _ _ _ _ (T161.setTop (mkF m 307 #[.val (.long x0), .second, .val (.long x1), .second, .val (.long x2), .second, .val (.int x3), .val (.int (own_f0_1 x0 x1 x2 x3)), .val (.int (x3 &&& (3 : Int32))), .val (.int (own_f0_2 x0 x1 x2 x3)), .val (.int (own_f0_3 x0 x1 x2 x3)), .val (.ref a5), .val (.ref a17), .val (.int (1 : Int32))] []))
                      refine own_Goes.step (fun tq kq => XS.iload X161.here hx rfl (hb hby at_307) rfl kq) ?_
                      show own_Goes _ _ _ _ _ _ _ (T161.setTop (mkF m 309 #[.val (.long x0), .second, .val (.long x1), .second, .val (.long x2), .second, .val (.int x3), .val (.int (own_f0_1 x0 x1 x2 x3)), .val (.int (x3 &&& (3 : Int32))), .val (.int (own_f0_2 x0 x1 x2 x3)), .val (.int (own_f0_3 x0 x1 x2 x3)), .val (.ref a5), .val (.ref a17), .val (.int (1 : Int32))] [(.int (1 : Int32))]))
                      exact own_endN X161 hx Bd.notSynchronized (t := .boolean) Bd.returns (by simp) (hb hby at_309) ⟨rfl, Nn156⟩ (by decide) (by decide)
                    by_cases hc155 : (own_f0_1 x0 x1 x2 x3) = (0 : Int32)
                    · refine own_Goes.step (fun tq kq => XS.ifNo X154.here hx rfl (hb hby at_205) rfl (XT.i0_ne_f hc155) kq) ?_
                      show own_Goes _ _ _ _ _ _ _ (T154.setTop (mkF m 208 #[.val (.long x0), .second, .val (.long x1), .second, .val (.long x2), .second, .val (.int x3), .val (.int (own_f0_1 x0 x1 x2 x3)), .val (.int (x3 &&& (3 : Int32))), .val (.int (own_f0_2 x0 x1 x2 x3)), .val (.int (own_f0_3 x0 x1 x2 x3)), .val (.ref a5), .val (.ref a17), .val (.int (1 : Int32))] [(.int (own_f14 (Int32.ofNat 2))), (.int (1 : Int32))]))
                      refine own_Goes.step (fun tq kq => XT.iconstV X154.here hx rfl (1 : Int32) (hb hby at_208) (by decide) kq) ?_
                      show own_Goes _ _ _ _ _ _ _ (T154.setTop (mkF m 209 #[.val (.long x0), .second, .val (.long x1), .second, .val (.long x2), .second, .val (.int x3), .val (.int (own_f0_1 x0 x1 x2 x3)), .val (.int (x3 &&& (3 : Int32))), .val (.int (own_f0_2 x0 x1 x2 x3)), .val (.int (own_f0_3 x0 x1 x2 x3)), .val (.ref a5), .val (.ref a17), .val (.int (1 : Int32))] [(.int (1 : Int32)), (.int (own_f14 (Int32.ofNat 2))), (.int (1 : Int32))]))
                      refine own_Goes.step (fun tq kq => XS.goto X154.here hx rfl (pc0 := 209) (pc' := 213) rfl (hb hby at_209) (by decide) (by decide) kq) ?_
                      show own_Goes _ _ _ _ _ _ _ (T154.setTop (mkF m 213 #[.val (.long x0), .second, .val (.long x1), .second, .val (.long x2), .second, .val (.int x3), .val (.int (own_f0_1 x0 x1 x2 x3)), .val (.int (x3 &&& (3 : Int32))), .val (.int (own_f0_2 x0 x1 x2 x3)), .val (.int (own_f0_3 x0 x1 x2 x3)), .val (.ref a5), .val (.ref a17), .val (.int (1 : Int32))] [(.int (1 : Int32)), (.int (own_f14 (Int32.ofNat 2))), (.int (1 : Int32))]))
                      rw [show (own_f0_5 x0 x1 x2 x3) = (1 : Int32) from by simp only [own_f0_5, if_pos hc155]] at J162
                      exact J162
                    · refine own_Goes.step (fun tq kq => XS.ifYes X154.here hx rfl (pc0 := 205) (pc' := 212) rfl (hb hby at_205) rfl (XT.i0_ne_t hc155) (by decide) (by decide) kq) ?_
                      show own_Goes _ _ _ _ _ _ _ (T154.setTop (mkF m 212 #[.val (.long x0), .second, .val (.long x1), .second, .val (.long x2), .second, .val (.int x3), .val (.int (own_f0_1 x0 x1 x2 x3)), .val (.int (x3 &&& (3 : Int32))), .val (.int (own_f0_2 x0 x1 x2 x3)), .val (.int (own_f0_3 x0 x1 x2 x3)), .val (.ref a5), .val (.ref a17), .val (.int (1 : Int32))] [(.int (own_f14 (Int32.ofNat 2))), (.int (1 : Int32))]))
                      refine own_Goes.step (fun tq kq => XT.iconstV X154.here hx rfl (0 : Int32) (hb hby at_212) (by decide) kq) ?_
                      show own_Goes _ _ _ _ _ _ _ (T154.setTop (mkF m 213 #[.val (.long x0), .second, .val (.long x1), .second, .val (.long x2), .second, .val (.int x3), .val (.int (own_f0_1 x0 x1 x2 x3)), .val (.int (x3 &&& (3 : Int32))), .val (.int (own_f0_2 x0 x1 x2 x3)), .val (.int (own_f0_3 x0 x1 x2 x3)), .val (.ref a5), .val (.ref a17), .val (.int (1 : Int32))] [(.int (0 : Int32)), (.int (own_f14 (Int32.ofNat 2))), (.int (1 : Int32))]))
                      rw [show (own_f0_5 x0 x1 x2 x3) = (0 : Int32) from by simp only [own_f0_5, if_neg hc155]] at J162
                      exact J162
                  · refine own_Goes.step (fun tq kq => XS.ifNo Y148.here hx rfl (hb hby at_176) rfl (XT.i0_eq_f hc152) kq) ?_
                    show own_Goes _ _ _ _ _ _ _ (T148.setTop (mkF m 179 #[.val (.long x0), .second, .val (.long x1), .second, .val (.long x2), .second, .val (.int x3), .val (.int (own_f0_1 x0 x1 x2 x3)), .val (.int (x3 &&& (3 : Int32))), .val (.int (own_f0_2 x0 x1 x2 x3)), .val (.int (own_f0_3 x0 x1 x2 x3)), .val (.ref a5), .val (.ref a17), .val (.int (1 : Int32))] []))
                    refine own_Goes.step (fun tq kq => XS.iload Y148.here hx rfl (hb hby at_179) rfl kq) ?_
                    show own_Goes _ _ _ _ _ _ _ (T148.setTop (mkF m 181 #[.val (.long x0), .second, .val (.long x1), .second, .val (.long x2), .second, .val (.int x3), .val (.int (own_f0_1 x0 x1 x2 x3)), .val (.int (x3 &&& (3 : Int32))), .val (.int (own_f0_2 x0 x1 x2 x3)), .val (.int (own_f0_3 x0 x1 x2 x3)), .val (.ref a5), .val (.ref a17), .val (.int (1 : Int32))] [(.int (1 : Int32))]))
                    refine own_Goes.step (fun tq kq => XS.aload Y148.here hx rfl (hb hby at_181) rfl rfl kq) ?_
                    show own_Goes _ _ _ _ _ _ _ (T148.setTop (mkF m 183 #[.val (.long x0), .second, .val (.long x1), .second, .val (.long x2), .second, .val (.int x3), .val (.int (own_f0_1 x0 x1 x2 x3)), .val (.int (x3 &&& (3 : Int32))), .val (.int (own_f0_2 x0 x1 x2 x3)), .val (.int (own_f0_3 x0 x1 x2 x3)), .val (.ref a5), .val (.ref a17), .val (.int (1 : Int32))] [(.ref a17), (.int (1 : Int32))]))
                    refine own_Goes.step (fun tq kq => XT.lload Y148.here hx rfl (hb hby at_183) rfl kq) ?_
                    show own_Goes _ _ _ _ _ _ _ (T148.setTop (mkF m 185 #[.val (.long x0), .second, .val (.long x1), .second, .val (.long x2), .second, .val (.int x3), .val (.int (own_f0_1 x0 x1 x2 x3)), .val (.int (x3 &&& (3 : Int32))), .val (.int (own_f0_2 x0 x1 x2 x3)), .val (.int (own_f0_3 x0 x1 x2 x3)), .val (.ref a5), .val (.ref a17), .val (.int (1 : Int32))] [(.long x2), (.ref a17), (.int (1 : Int32))]))
                    obtain ⟨w163, T163, L163, q163, Y163, st163⟩ := own_virt Y148 hx hZ rfl (own_W.exa B148) hown (own_at hw 64 rfl) (own_at hw 65 rfl) (own_at hw 67 rfl) (own_at hw 66 rfl) (own_at hw 21 rfl) (own_at hw 68 rfl) (by decide) (own_m8n l Z a0 hw [] a17 x2 kA sA dA pA (own_setJ (own_setJ (own_setJ (fun _ => 0) 0 x0) 1 x1) 2 x2) (own_setJ (own_setJ (own_setJ (fun _ => 0) 0 (own_f1_size ((8 : Int64) + (((XT.ushr x3 (4 : Int32)) &&& (7 : Int32)).toInt64)) (own_f0_4 x0 x1 x2 x3))) 1 (own_f1_size ((8 : Int64) + (((XT.ushr x3 (4 : Int32)) &&& (7 : Int32)).toInt64)) (own_f0_4 x0 x1 x2 x3))) 2 (own_f1_size ((8 : Int64) + (((XT.ushr x3 (4 : Int32)) &&& (7 : Int32)).toInt64)) (own_f0_4 x0 x1 x2 x3))) (own_set (own_set (own_set (fun _ => 0) 0 (nar .boolean (own_f7 (own_f1_delete ((8 : Int64) + (((XT.ushr x3 (4 : Int32)) &&& (7 : Int32)).toInt64)) (own_f0_4 x0 x1 x2 x3))))) 1 (nar .boolean (own_f7 (own_f1_delete ((8 : Int64) + (((XT.ushr x3 (4 : Int32)) &&& (7 : Int32)).toInt64)) (own_f0_4 x0 x1 x2 x3))))) 2 (nar .boolean (own_f7 (own_f1_delete ((8 : Int64) + (((XT.ushr x3 (4 : Int32)) &&& (7 : Int32)).toInt64)) (own_f0_4 x0 x1 x2 x3))))) 3 fs148 mx148 am148 (-1 : Int32) 0 n0 T148.heap B148 (by decide)) (by decide) (W := 1) (by decide) (by decide) (by decide) (g := (mkF m 185 #[.val (.long x0), .second, .val (.long x1), .second, .val (.long x2), .second, .val (.int x3), .val (.int (own_f0_1 x0 x1 x2 x3)), .val (.int (x3 &&& (3 : Int32))), .val (.int (own_f0_2 x0 x1 x2 x3)), .val (.int (own_f0_3 x0 x1 x2 x3)), .val (.ref a5), .val (.ref a17), .val (.int (1 : Int32))] [(.long x2), (.ref a17), (.int (1 : Int32))])) rfl (by rw [hml]; rfl) (argsL := [(.long x2)]) (rest := [(.int (1 : Int32))]) (lenOf pd_8 rfl) rfl (by show 2 * 0 + _ ≤ _; exact Nat.le_of_eq rfl) (hb hby at_185)
                    obtain ⟨rfl, N163, K163, iA, S163, ixn163, lb163, hbl163, hiA163, B163, I163⟩ := q163
                    have Nn163 := Fr.app Nn148 N163
                    have IV163 := own_bld_inv (by decide) hbl163
                    have en_iA : a5 ≠ iA := Nat.ne_of_lt (Nat.lt_of_lt_of_le f149.lt hiA163)
                    have f164 := f149.keep K163
                    have f165 := f150.keep K163 (own_nin en_w)
                    have f166 := f151.keep K163 (own_nin en_w)
                    rw [show own_bi (own_mem (own_setJ (own_setJ (own_setJ (fun _ => 0) 0 x0) 1 x1) 2 x2) 3 x2) = (1 : Int32) from own_hit rfl] at st163
                    refine own_Goes.step st163 ?_
                    show own_Goes _ _ _ _ _ _ _ (T163.setTop (mkF m 188 #[.val (.long x0), .second, .val (.long x1), .second, .val (.long x2), .second, .val (.int x3), .val (.int (own_f0_1 x0 x1 x2 x3)), .val (.int (x3 &&& (3 : Int32))), .val (.int (own_f0_2 x0 x1 x2 x3)), .val (.int (own_f0_3 x0 x1 x2 x3)), .val (.ref a5), .val (.ref a17), .val (.int (1 : Int32))] [(.int (1 : Int32)), (.int (1 : Int32))]))
                    refine own_Goes.step (fun tq kq => XS.iand Y163.here hx rfl (hb hby at_188) rfl kq) ?_
                    show own_Goes _ _ _ _ _ _ _ (T163.setTop (mkF m 189 #[.val (.long x0), .second, .val (.long x1), .second, .val (.long x2), .second, .val (.int x3), .val (.int (own_f0_1 x0 x1 x2 x3)), .val (.int (x3 &&& (3 : Int32))), .val (.int (own_f0_2 x0 x1 x2 x3)), .val (.int (own_f0_3 x0 x1 x2 x3)), .val (.ref a5), .val (.ref a17), .val (.int (1 : Int32))] [(.int (1 : Int32))]))
                    refine own_Goes.step (fun tq kq => XS.istore Y163.here hx rfl (hb hby at_189) rfl (l' := #[.val (.long x0), .second, .val (.long x1), .second, .val (.long x2), .second, .val (.int x3), .val (.int (own_f0_1 x0 x1 x2 x3)), .val (.int (x3 &&& (3 : Int32))), .val (.int (own_f0_2 x0 x1 x2 x3)), .val (.int (own_f0_3 x0 x1 x2 x3)), .val (.ref a5), .val (.ref a17), .val (.int (1 : Int32))]) rfl kq) ?_
                    show own_Goes _ _ _ _ _ _ _ (T163.setTop (mkF m 191 #[.val (.long x0), .second, .val (.long x1), .second, .val (.long x2), .second, .val (.int x3), .val (.int (own_f0_1 x0 x1 x2 x3)), .val (.int (x3 &&& (3 : Int32))), .val (.int (own_f0_2 x0 x1 x2 x3)), .val (.int (own_f0_3 x0 x1 x2 x3)), .val (.ref a5), .val (.ref a17), .val (.int (1 : Int32))] []))
                    obtain ⟨Sp, ixp, lp, tp, hbp, htp, hmp, hcase⟩ := own_bld_last (by decide) hbl163
                    have IVp := own_bld_inv (by decide) hbp
                    rcases hcase with ⟨hq, eS, eI, eL⟩ | ⟨hq, eS, eI, eL⟩
                    · subst eS eI eL
                      have Bp := B163
                      have Ip := I163
                      refine own_Goes.step (fun tq kq => XS.aload Y163.here hx rfl (hb hby at_191) rfl rfl kq) ?_
                      show own_Goes _ _ _ _ _ _ _ (T163.setTop (mkF m 193 #[.val (.long x0), .second, .val (.long x1), .second, .val (.long x2), .second, .val (.int x3), .val (.int (own_f0_1 x0 x1 x2 x3)), .val (.int (x3 &&& (3 : Int32))), .val (.int (own_f0_2 x0 x1 x2 x3)), .val (.int (own_f0_3 x0 x1 x2 x3)), .val (.ref a5), .val (.ref a17), .val (.int (1 : Int32))] [(.ref a17)]))
                      obtain ⟨w167, T167, L167, q167, Y167, st167⟩ := own_virt Y163 hx hZ rfl (own_W.exa Bp) hown (own_at hw 89 rfl) (own_at hw 90 rfl) (own_at hw 92 rfl) (own_at hw 91 rfl) (own_at hw 21 rfl) (own_at hw 93 rfl) (by decide) (own_m13a l Z a0 hw [] a17 kA sA dA pA (own_setJ (own_setJ (own_setJ (fun _ => 0) 0 x0) 1 x1) 2 x2) (own_setJ (own_setJ (own_setJ (fun _ => 0) 0 (own_f1_size ((8 : Int64) + (((XT.ushr x3 (4 : Int32)) &&& (7 : Int32)).toInt64)) (own_f0_4 x0 x1 x2 x3))) 1 (own_f1_size ((8 : Int64) + (((XT.ushr x3 (4 : Int32)) &&& (7 : Int32)).toInt64)) (own_f0_4 x0 x1 x2 x3))) 2 (own_f1_size ((8 : Int64) + (((XT.ushr x3 (4 : Int32)) &&& (7 : Int32)).toInt64)) (own_f0_4 x0 x1 x2 x3))) (own_set (own_set (own_set (fun _ => 0) 0 (nar .boolean (own_f7 (own_f1_delete ((8 : Int64) + (((XT.ushr x3 (4 : Int32)) &&& (7 : Int32)).toInt64)) (own_f0_4 x0 x1 x2 x3))))) 1 (nar .boolean (own_f7 (own_f1_delete ((8 : Int64) + (((XT.ushr x3 (4 : Int32)) &&& (7 : Int32)).toInt64)) (own_f0_4 x0 x1 x2 x3))))) 2 (nar .boolean (own_f7 (own_f1_delete ((8 : Int64) + (((XT.ushr x3 (4 : Int32)) &&& (7 : Int32)).toInt64)) (own_f0_4 x0 x1 x2 x3))))) 2 fs148 mx148 am148 (Int32.ofNat (ixp + 1)) iA (own_set Sp tp (Int32.ofNat (2 + 1))) tp n0 T163.heap Bp Ip htp) (by decide) (W := 0) (by decide) (by decide) (by decide) (g := (mkF m 193 #[.val (.long x0), .second, .val (.long x1), .second, .val (.long x2), .second, .val (.int x3), .val (.int (own_f0_1 x0 x1 x2 x3)), .val (.int (x3 &&& (3 : Int32))), .val (.int (own_f0_2 x0 x1 x2 x3)), .val (.int (own_f0_3 x0 x1 x2 x3)), .val (.ref a5), .val (.ref a17), .val (.int (1 : Int32))] [(.ref a17)])) rfl (by rw [hml]; rfl) (argsL := []) (rest := []) (lenOf pd_13 rfl) rfl (by show 2 * 0 + _ ≤ _; exact Nat.le_of_eq rfl) (hb hby at_193)
                      obtain ⟨rfl, N167, B167, I167⟩ := q167
                      rw [own_setset hq] at I167
                      have Nn167 := Fr.app Nn163 N167
                      refine own_Goes.step st167 ?_
                      show own_Goes _ _ _ _ _ _ _ (T167.setTop (mkF m 196 #[.val (.long x0), .second, .val (.long x1), .second, .val (.long x2), .second, .val (.int x3), .val (.int (own_f0_1 x0 x1 x2 x3)), .val (.int (x3 &&& (3 : Int32))), .val (.int (own_f0_2 x0 x1 x2 x3)), .val (.int (own_f0_3 x0 x1 x2 x3)), .val (.ref a5), .val (.ref a17), .val (.int (1 : Int32))] []))
                      exact JS T167 _ _ Y167 rfl Nn167 _ _ _ _ _ _ _ _ _ _ B167 I167 IVp
                    · subst eS eI eL
                      have Bp := B163
                      have Ip := I163
                      refine own_Goes.step (fun tq kq => XS.aload Y163.here hx rfl (hb hby at_191) rfl rfl kq) ?_
                      show own_Goes _ _ _ _ _ _ _ (T163.setTop (mkF m 193 #[.val (.long x0), .second, .val (.long x1), .second, .val (.long x2), .second, .val (.int x3), .val (.int (own_f0_1 x0 x1 x2 x3)), .val (.int (x3 &&& (3 : Int32))), .val (.int (own_f0_2 x0 x1 x2 x3)), .val (.int (own_f0_3 x0 x1 x2 x3)), .val (.ref a5), .val (.ref a17), .val (.int (1 : Int32))] [(.ref a17)]))
                      obtain ⟨w168, T168, L168, q168, Y168, st168⟩ := own_virt Y163 hx hZ rfl (own_W.exa Bp) hown (own_at hw 89 rfl) (own_at hw 90 rfl) (own_at hw 92 rfl) (own_at hw 91 rfl) (own_at hw 21 rfl) (own_at hw 93 rfl) (by decide) (own_m13m l Z a0 hw [] a17 kA sA dA pA (own_setJ (own_setJ (own_setJ (fun _ => 0) 0 x0) 1 x1) 2 x2) (own_setJ (own_setJ (own_setJ (fun _ => 0) 0 (own_f1_size ((8 : Int64) + (((XT.ushr x3 (4 : Int32)) &&& (7 : Int32)).toInt64)) (own_f0_4 x0 x1 x2 x3))) 1 (own_f1_size ((8 : Int64) + (((XT.ushr x3 (4 : Int32)) &&& (7 : Int32)).toInt64)) (own_f0_4 x0 x1 x2 x3))) 2 (own_f1_size ((8 : Int64) + (((XT.ushr x3 (4 : Int32)) &&& (7 : Int32)).toInt64)) (own_f0_4 x0 x1 x2 x3))) (own_set (own_set (own_set (fun _ => 0) 0 (nar .boolean (own_f7 (own_f1_delete ((8 : Int64) + (((XT.ushr x3 (4 : Int32)) &&& (7 : Int32)).toInt64)) (own_f0_4 x0 x1 x2 x3))))) 1 (nar .boolean (own_f7 (own_f1_delete ((8 : Int64) + (((XT.ushr x3 (4 : Int32)) &&& (7 : Int32)).toInt64)) (own_f0_4 x0 x1 x2 x3))))) 2 (nar .boolean (own_f7 (own_f1_delete ((8 : Int64) + (((XT.ushr x3 (4 : Int32)) &&& (7 : Int32)).toInt64)) (own_f0_4 x0 x1 x2 x3))))) 2 fs148 mx148 am148 (Int32.ofNat ixn163) iA S163 n0 T163.heap Bp Ip) (by decide) (W := 0) (by decide) (by decide) (by decide) (g := (mkF m 193 #[.val (.long x0), .second, .val (.long x1), .second, .val (.long x2), .second, .val (.int x3), .val (.int (own_f0_1 x0 x1 x2 x3)), .val (.int (x3 &&& (3 : Int32))), .val (.int (own_f0_2 x0 x1 x2 x3)), .val (.int (own_f0_3 x0 x1 x2 x3)), .val (.ref a5), .val (.ref a17), .val (.int (1 : Int32))] [(.ref a17)])) rfl (by rw [hml]; rfl) (argsL := []) (rest := []) (lenOf pd_13 rfl) rfl (by show 2 * 0 + _ ≤ _; exact Nat.le_of_eq rfl) (hb hby at_193)
                      obtain ⟨rfl, N168, B168, I168⟩ := q168
                      have Nn168 := Fr.app Nn163 N168
                      refine own_Goes.step st168 ?_
                      show own_Goes _ _ _ _ _ _ _ (T168.setTop (mkF m 196 #[.val (.long x0), .second, .val (.long x1), .second, .val (.long x2), .second, .val (.int x3), .val (.int (own_f0_1 x0 x1 x2 x3)), .val (.int (x3 &&& (3 : Int32))), .val (.int (own_f0_2 x0 x1 x2 x3)), .val (.int (own_f0_3 x0 x1 x2 x3)), .val (.ref a5), .val (.ref a17), .val (.int (1 : Int32))] []))
                      exact JS T168 _ _ Y168 rfl Nn168 _ _ _ _ _ _ _ _ _ _ B168 I168 IVp
                · refine own_Goes.step (fun tq kq => XS.ifNo Y134.here hx rfl (hb hby at_133) rfl (XT.i0_eq_f hc147) kq) ?_
                  show own_Goes _ _ _ _ _ _ _ (T134.setTop (mkF m 136 #[.val (.long x0), .second, .val (.long x1), .second, .val (.long x2), .second, .val (.int x3), .val (.int (own_f0_1 x0 x1 x2 x3)), .val (.int (x3 &&& (3 : Int32))), .val (.int (own_f0_2 x0 x1 x2 x3)), .val (.int (own_f0_3 x0 x1 x2 x3)), .val (.ref a5), .val (.ref a17), .val (.int (1 : Int32))] []))
                  refine own_Goes.step (fun tq kq => XS.iload Y134.here hx rfl (hb hby at_136) rfl kq) ?_
                  show own_Goes _ _ _ _ _ _ _ (T134.setTop (mkF m 138 #[.val (.long x0), .second, .val (.long x1), .second, .val (.long x2), .second, .val (.int x3), .val (.int (own_f0_1 x0 x1 x2 x3)), .val (.int (x3 &&& (3 : Int32))), .val (.int (own_f0_2 x0 x1 x2 x3)), .val (.int (own_f0_3 x0 x1 x2 x3)), .val (.ref a5), .val (.ref a17), .val (.int (1 : Int32))] [(.int (1 : Int32))]))
                  refine own_Goes.step (fun tq kq => XS.aload Y134.here hx rfl (hb hby at_138) rfl rfl kq) ?_
                  show own_Goes _ _ _ _ _ _ _ (T134.setTop (mkF m 140 #[.val (.long x0), .second, .val (.long x1), .second, .val (.long x2), .second, .val (.int x3), .val (.int (own_f0_1 x0 x1 x2 x3)), .val (.int (x3 &&& (3 : Int32))), .val (.int (own_f0_2 x0 x1 x2 x3)), .val (.int (own_f0_3 x0 x1 x2 x3)), .val (.ref a5), .val (.ref a17), .val (.int (1 : Int32))] [(.ref a17), (.int (1 : Int32))]))
                  refine own_Goes.step (fun tq kq => XT.lload Y134.here hx rfl (hb hby at_140) rfl kq) ?_
                  show own_Goes _ _ _ _ _ _ _ (T134.setTop (mkF m 142 #[.val (.long x0), .second, .val (.long x1), .second, .val (.long x2), .second, .val (.int x3), .val (.int (own_f0_1 x0 x1 x2 x3)), .val (.int (x3 &&& (3 : Int32))), .val (.int (own_f0_2 x0 x1 x2 x3)), .val (.int (own_f0_3 x0 x1 x2 x3)), .val (.ref a5), .val (.ref a17), .val (.int (1 : Int32))] [(.long x2), (.ref a17), (.int (1 : Int32))]))
                  obtain ⟨w169, T169, L169, q169, Y169, st169⟩ := own_virt Y134 hx hZ rfl (own_W.exa B134) hown (own_at hw 64 rfl) (own_at hw 65 rfl) (own_at hw 67 rfl) (own_at hw 66 rfl) (own_at hw 21 rfl) (own_at hw 68 rfl) (by decide) (own_m8n l Z a0 hw [] a17 x2 kA sA dA pA (own_setJ (own_setJ (fun _ => 0) 0 x0) 1 x1) (own_setJ (own_setJ (fun _ => 0) 0 (own_f1_size ((8 : Int64) + (((XT.ushr x3 (4 : Int32)) &&& (7 : Int32)).toInt64)) (own_f0_4 x0 x1 x2 x3))) 1 (own_f1_size ((8 : Int64) + (((XT.ushr x3 (4 : Int32)) &&& (7 : Int32)).toInt64)) (own_f0_4 x0 x1 x2 x3))) (own_set (own_set (fun _ => 0) 0 (nar .boolean (own_f7 (own_f1_delete ((8 : Int64) + (((XT.ushr x3 (4 : Int32)) &&& (7 : Int32)).toInt64)) (own_f0_4 x0 x1 x2 x3))))) 1 (nar .boolean (own_f7 (own_f1_delete ((8 : Int64) + (((XT.ushr x3 (4 : Int32)) &&& (7 : Int32)).toInt64)) (own_f0_4 x0 x1 x2 x3))))) 2 fs134 mx134 am134 (-1 : Int32) 0 n0 T134.heap B134 (by decide)) (by decide) (W := 1) (by decide) (by decide) (by decide) (g := (mkF m 142 #[.val (.long x0), .second, .val (.long x1), .second, .val (.long x2), .second, .val (.int x3), .val (.int (own_f0_1 x0 x1 x2 x3)), .val (.int (x3 &&& (3 : Int32))), .val (.int (own_f0_2 x0 x1 x2 x3)), .val (.int (own_f0_3 x0 x1 x2 x3)), .val (.ref a5), .val (.ref a17), .val (.int (1 : Int32))] [(.long x2), (.ref a17), (.int (1 : Int32))])) rfl (by rw [hml]; rfl) (argsL := [(.long x2)]) (rest := [(.int (1 : Int32))]) (lenOf pd_8 rfl) rfl (by show 2 * 0 + _ ≤ _; exact Nat.le_of_eq rfl) (hb hby at_142)
                  obtain ⟨rfl, N169, K169, iA, S169, ixn169, lb169, hbl169, hiA169, B169, I169⟩ := q169
                  have Nn169 := Fr.app Nn134 N169
                  have IV169 := own_bld_inv (by decide) hbl169
                  have en_iA : a5 ≠ iA := Nat.ne_of_lt (Nat.lt_of_lt_of_le f135.lt hiA169)
                  have f170 := f135.keep K169
                  have f171 := f136.keep K169 (own_nin en_w)
                  have f172 := f137.keep K169 (own_nin en_w)
                  refine own_Goes.step st169 ?_
                  show own_Goes _ _ _ _ _ _ _ (T169.setTop (mkF m 145 #[.val (.long x0), .second, .val (.long x1), .second, .val (.long x2), .second, .val (.int x3), .val (.int (own_f0_1 x0 x1 x2 x3)), .val (.int (x3 &&& (3 : Int32))), .val (.int (own_f0_2 x0 x1 x2 x3)), .val (.int (own_f0_3 x0 x1 x2 x3)), .val (.ref a5), .val (.ref a17), .val (.int (1 : Int32))] [(.int (own_bi (own_mem (own_setJ (own_setJ (fun _ => 0) 0 x0) 1 x1) 2 x2))), (.int (1 : Int32))]))
                  refine own_Goes.step (fun tq kq => XT.lload Y169.here hx rfl (hb hby at_145) rfl kq) ?_
                  show own_Goes _ _ _ _ _ _ _ (T169.setTop (mkF m 147 #[.val (.long x0), .second, .val (.long x1), .second, .val (.long x2), .second, .val (.int x3), .val (.int (own_f0_1 x0 x1 x2 x3)), .val (.int (x3 &&& (3 : Int32))), .val (.int (own_f0_2 x0 x1 x2 x3)), .val (.int (own_f0_3 x0 x1 x2 x3)), .val (.ref a5), .val (.ref a17), .val (.int (1 : Int32))] [(.long x2), (.int (own_bi (own_mem (own_setJ (own_setJ (fun _ => 0) 0 x0) 1 x1) 2 x2))), (.int (1 : Int32))]))
                  refine own_Goes.step (fun tq kq => XT.lloadN Y169.here hx rfl (hb hby at_147) rfl kq) ?_
                  show own_Goes _ _ _ _ _ _ _ (T169.setTop (mkF m 148 #[.val (.long x0), .second, .val (.long x1), .second, .val (.long x2), .second, .val (.int x3), .val (.int (own_f0_1 x0 x1 x2 x3)), .val (.int (x3 &&& (3 : Int32))), .val (.int (own_f0_2 x0 x1 x2 x3)), .val (.int (own_f0_3 x0 x1 x2 x3)), .val (.ref a5), .val (.ref a17), .val (.int (1 : Int32))] [(.long x0), (.long x2), (.int (own_bi (own_mem (own_setJ (own_setJ (fun _ => 0) 0 x0) 1 x1) 2 x2))), (.int (1 : Int32))]))
                  refine own_Goes.step (fun tq kq => XT.lloadN Y169.here hx rfl (hb hby at_148) rfl kq) ?_
                  show own_Goes _ _ _ _ _ _ _ (T169.setTop (mkF m 149 #[.val (.long x0), .second, .val (.long x1), .second, .val (.long x2), .second, .val (.int x3), .val (.int (own_f0_1 x0 x1 x2 x3)), .val (.int (x3 &&& (3 : Int32))), .val (.int (own_f0_2 x0 x1 x2 x3)), .val (.int (own_f0_3 x0 x1 x2 x3)), .val (.ref a5), .val (.ref a17), .val (.int (1 : Int32))] [(.long x1), (.long x0), (.long x2), (.int (own_bi (own_mem (own_setJ (own_setJ (fun _ => 0) 0 x0) 1 x1) 2 x2))), (.int (1 : Int32))]))
                  refine own_Goes.step (fun tq kq => XS.iload Y169.here hx rfl (hb hby at_149) rfl kq) ?_
                  show own_Goes _ _ _ _ _ _ _ (T169.setTop (mkF m 151 #[.val (.long x0), .second, .val (.long x1), .second, .val (.long x2), .second, .val (.int x3), .val (.int (own_f0_1 x0 x1 x2 x3)), .val (.int (x3 &&& (3 : Int32))), .val (.int (own_f0_2 x0 x1 x2 x3)), .val (.int (own_f0_3 x0 x1 x2 x3)), .val (.ref a5), .val (.ref a17), .val (.int (1 : Int32))] [(.int (own_f0_1 x0 x1 x2 x3)), (.long x1), (.long x0), (.long x2), (.int (own_bi (own_mem (own_setJ (own_setJ (fun _ => 0) 0 x0) 1 x1) 2 x2))), (.int (1 : Int32))]))
                  obtain ⟨w173, T173, L173, q173, Y173, st173⟩ := own_stat Y169 hx hZ rfl hown (own_at hw 99 rfl) (own_at hw 100 rfl) (own_at hw 101 rfl) (own_at hw 102 rfl) (by decide) (own_m15 l Z a0 hw [] x2 x0 x1 (own_f0_1 x0 x1 x2 x3) T169.heap ) (by decide) (W := 2) (by decide) (by decide) (by decide) (g := (mkF m 151 #[.val (.long x0), .second, .val (.long x1), .second, .val (.long x2), .second, .val (.int x3), .val (.int (own_f0_1 x0 x1 x2 x3)), .val (.int (x3 &&& (3 : Int32))), .val (.int (own_f0_2 x0 x1 x2 x3)), .val (.int (own_f0_3 x0 x1 x2 x3)), .val (.ref a5), .val (.ref a17), .val (.int (1 : Int32))] [(.int (own_f0_1 x0 x1 x2 x3)), (.long x1), (.long x0), (.long x2), (.int (own_bi (own_mem (own_setJ (own_setJ (fun _ => 0) 0 x0) 1 x1) 2 x2))), (.int (1 : Int32))])) rfl (by rw [hml]; rfl) (argsL := [(.long x2), (.long x0), (.long x1), (.int (own_f0_1 x0 x1 x2 x3))]) (rest := [(.int (own_bi (own_mem (own_setJ (own_setJ (fun _ => 0) 0 x0) 1 x1) 2 x2))), (.int (1 : Int32))]) (lenOf pd_15 rfl) rfl (by show 2 * 0 + _ ≤ _; exact Nat.le_of_eq rfl) (hb hby at_151)
                  obtain ⟨e173, X173⟩ := own_clean q173 Y173 rfl rfl
                  obtain ⟨rfl, -, -⟩ := q173
                  refine own_Goes.step st173 ?_
                  show own_Goes _ _ _ _ _ _ _ (T173.setTop (mkF m 154 #[.val (.long x0), .second, .val (.long x1), .second, .val (.long x2), .second, .val (.int x3), .val (.int (own_f0_1 x0 x1 x2 x3)), .val (.int (x3 &&& (3 : Int32))), .val (.int (own_f0_2 x0 x1 x2 x3)), .val (.int (own_f0_3 x0 x1 x2 x3)), .val (.ref a5), .val (.ref a17), .val (.int (1 : Int32))] [(.int (own_f15 x2 x0 x1 (own_f0_1 x0 x1 x2 x3))), (.int (own_bi (own_mem (own_setJ (own_setJ (fun _ => 0) 0 x0) 1 x1) 2 x2))), (.int (1 : Int32))]))
                  refine own_Goes.step (fun tq kq => XS.icmpNo X173.here hx rfl (hb hby at_154) rfl (XT.ii_ne_f (own_held2 rfl rfl hc88)) kq) ?_
                  show own_Goes _ _ _ _ _ _ _ (T173.setTop (mkF m 157 #[.val (.long x0), .second, .val (.long x1), .second, .val (.long x2), .second, .val (.int x3), .val (.int (own_f0_1 x0 x1 x2 x3)), .val (.int (x3 &&& (3 : Int32))), .val (.int (own_f0_2 x0 x1 x2 x3)), .val (.int (own_f0_3 x0 x1 x2 x3)), .val (.ref a5), .val (.ref a17), .val (.int (1 : Int32))] [(.int (1 : Int32))]))
                  refine own_Goes.step (fun tq kq => XT.iconstV X173.here hx rfl (1 : Int32) (hb hby at_157) (by decide) kq) ?_
                  show own_Goes _ _ _ _ _ _ _ (T173.setTop (mkF m 158 #[.val (.long x0), .second, .val (.long x1), .second, .val (.long x2), .second, .val (.int x3), .val (.int (own_f0_1 x0 x1 x2 x3)), .val (.int (x3 &&& (3 : Int32))), .val (.int (own_f0_2 x0 x1 x2 x3)), .val (.int (own_f0_3 x0 x1 x2 x3)), .val (.ref a5), .val (.ref a17), .val (.int (1 : Int32))] [(.int (1 : Int32)), (.int (1 : Int32))]))
                  refine own_Goes.step (fun tq kq => XS.goto X173.here hx rfl (pc0 := 158) (pc' := 162) rfl (hb hby at_158) (by decide) (by decide) kq) ?_
                  show own_Goes _ _ _ _ _ _ _ (T173.setTop (mkF m 162 #[.val (.long x0), .second, .val (.long x1), .second, .val (.long x2), .second, .val (.int x3), .val (.int (own_f0_1 x0 x1 x2 x3)), .val (.int (x3 &&& (3 : Int32))), .val (.int (own_f0_2 x0 x1 x2 x3)), .val (.int (own_f0_3 x0 x1 x2 x3)), .val (.ref a5), .val (.ref a17), .val (.int (1 : Int32))] [(.int (1 : Int32)), (.int (1 : Int32))]))
                  refine own_Goes.step (fun tq kq => XS.iand X173.here hx rfl (hb hby at_162) rfl kq) ?_
                  show own_Goes _ _ _ _ _ _ _ (T173.setTop (mkF m 163 #[.val (.long x0), .second, .val (.long x1), .second, .val (.long x2), .second, .val (.int x3), .val (.int (own_f0_1 x0 x1 x2 x3)), .val (.int (x3 &&& (3 : Int32))), .val (.int (own_f0_2 x0 x1 x2 x3)), .val (.int (own_f0_3 x0 x1 x2 x3)), .val (.ref a5), .val (.ref a17), .val (.int (1 : Int32))] [(.int (1 : Int32))]))
                  refine own_Goes.step (fun tq kq => XS.istore X173.here hx rfl (hb hby at_163) rfl (l' := #[.val (.long x0), .second, .val (.long x1), .second, .val (.long x2), .second, .val (.int x3), .val (.int (own_f0_1 x0 x1 x2 x3)), .val (.int (x3 &&& (3 : Int32))), .val (.int (own_f0_2 x0 x1 x2 x3)), .val (.int (own_f0_3 x0 x1 x2 x3)), .val (.ref a5), .val (.ref a17), .val (.int (1 : Int32))]) rfl kq) ?_
                  show own_Goes _ _ _ _ _ _ _ (T173.setTop (mkF m 165 #[.val (.long x0), .second, .val (.long x1), .second, .val (.long x2), .second, .val (.int x3), .val (.int (own_f0_1 x0 x1 x2 x3)), .val (.int (x3 &&& (3 : Int32))), .val (.int (own_f0_2 x0 x1 x2 x3)), .val (.int (own_f0_3 x0 x1 x2 x3)), .val (.ref a5), .val (.ref a17), .val (.int (1 : Int32))] []))
                  refine own_Goes.step (fun tq kq => XS.aload X173.here hx rfl (hb hby at_165) rfl rfl kq) ?_
                  show own_Goes _ _ _ _ _ _ _ (T173.setTop (mkF m 167 #[.val (.long x0), .second, .val (.long x1), .second, .val (.long x2), .second, .val (.int x3), .val (.int (own_f0_1 x0 x1 x2 x3)), .val (.int (x3 &&& (3 : Int32))), .val (.int (own_f0_2 x0 x1 x2 x3)), .val (.int (own_f0_3 x0 x1 x2 x3)), .val (.ref a5), .val (.ref a17), .val (.int (1 : Int32))] [(.ref a17)]))
                  refine own_Goes.step (fun tq kq => XT.lload X173.here hx rfl (hb hby at_167) rfl kq) ?_
                  show own_Goes _ _ _ _ _ _ _ (T173.setTop (mkF m 169 #[.val (.long x0), .second, .val (.long x1), .second, .val (.long x2), .second, .val (.int x3), .val (.int (own_f0_1 x0 x1 x2 x3)), .val (.int (x3 &&& (3 : Int32))), .val (.int (own_f0_2 x0 x1 x2 x3)), .val (.int (own_f0_3 x0 x1 x2 x3)), .val (.ref a5), .val (.ref a17), .val (.int (1 : Int32))] [(.long x2), (.ref a17)]))
                  refine own_Goes.step (fun tq kq => XS.aload X173.here hx rfl (hb hby at_169) rfl rfl kq) ?_
                  show own_Goes _ _ _ _ _ _ _ (T173.setTop (mkF m 171 #[.val (.long x0), .second, .val (.long x1), .second, .val (.long x2), .second, .val (.int x3), .val (.int (own_f0_1 x0 x1 x2 x3)), .val (.int (x3 &&& (3 : Int32))), .val (.int (own_f0_2 x0 x1 x2 x3)), .val (.int (own_f0_3 x0 x1 x2 x3)), .val (.ref a5), .val (.ref a17), .val (.int (1 : Int32))] [(.ref a5), (.long x2), (.ref a17)]))
                  have hbl174 : own_bld (own_setJ (own_setJ (own_setJ (fun _ => 0) 0 x0) 1 x1) 2 x2) (-1 : Int32) 2 = some (S169, ixn169, lb169) := (own_bld_congr 2 (by decide) (fun j hj => (if_neg (Nat.ne_of_lt hj)).symm)).symm.trans hbl169
                  have IV174 := own_bld_inv (by decide) hbl174
                  obtain ⟨t174, ht174, hm174⟩ := IV174.find (by decide) x2
                  obtain ⟨w174, T174, L174, q174, Y174, st174⟩ := own_virt X173 hx hZ e173 (own_W.exa B169) hown (own_at hw 39 rfl) (own_at hw 40 rfl) (own_at hw 42 rfl) (own_at hw 41 rfl) (own_at hw 21 rfl) (own_at hw 43 rfl) (by decide) (own_m5s l Z a0 hw [] a17 x2 a5 kA sA dA pA (own_setJ (own_setJ (fun _ => 0) 0 x0) 1 x1) (own_setJ (own_setJ (fun _ => 0) 0 (own_f1_size ((8 : Int64) + (((XT.ushr x3 (4 : Int32)) &&& (7 : Int32)).toInt64)) (own_f0_4 x0 x1 x2 x3))) 1 (own_f1_size ((8 : Int64) + (((XT.ushr x3 (4 : Int32)) &&& (7 : Int32)).toInt64)) (own_f0_4 x0 x1 x2 x3))) (own_set (own_set (fun _ => 0) 0 (nar .boolean (own_f7 (own_f1_delete ((8 : Int64) + (((XT.ushr x3 (4 : Int32)) &&& (7 : Int32)).toInt64)) (own_f0_4 x0 x1 x2 x3))))) 1 (nar .boolean (own_f7 (own_f1_delete ((8 : Int64) + (((XT.ushr x3 (4 : Int32)) &&& (7 : Int32)).toInt64)) (own_f0_4 x0 x1 x2 x3))))) 2 fs134 mx134 am134 lb169 (Int32.ofNat ixn169) (own_f1_size ((8 : Int64) + (((XT.ushr x3 (4 : Int32)) &&& (7 : Int32)).toInt64)) (own_f0_4 x0 x1 x2 x3)) (own_f1_delete ((8 : Int64) + (((XT.ushr x3 (4 : Int32)) &&& (7 : Int32)).toInt64)) (own_f0_4 x0 x1 x2 x3)) iA S169 t174 n0 T169.heap B169 I169 f170 f171 f172 (own_flag x0 x1 x2 x3) en_w en_kA en_sA en_dA en_pA (by decide) en_iA (IV174.1.ok (by decide)) hm174 ht174 (own_ix8 (by have := IV174.2.1; omega))) (by decide) (W := 0) (by decide) (by decide) (by decide) (g := (mkF m 171 #[.val (.long x0), .second, .val (.long x1), .second, .val (.long x2), .second, .val (.int x3), .val (.int (own_f0_1 x0 x1 x2 x3)), .val (.int (x3 &&& (3 : Int32))), .val (.int (own_f0_2 x0 x1 x2 x3)), .val (.int (own_f0_3 x0 x1 x2 x3)), .val (.ref a5), .val (.ref a17), .val (.int (1 : Int32))] [(.ref a5), (.long x2), (.ref a17)])) rfl (by rw [hml]; rfl) (argsL := [(.long x2), (.ref a5)]) (rest := []) (lenOf pd_5 rfl) rfl (by show 2 * 0 + _ ≤ _; exact Nat.le_of_eq rfl) (hb hby at_171)
                  obtain ⟨rfl, N174, K174, fs174, mx174, am174, -, hif174⟩ := q174
                  have Nn174 := Fr.app Nn169 N174
                  refine own_Goes.step st174 ?_
                  show own_Goes _ _ _ _ _ _ _ (T174.setTop (mkF m 174 #[.val (.long x0), .second, .val (.long x1), .second, .val (.long x2), .second, .val (.int x3), .val (.int (own_f0_1 x0 x1 x2 x3)), .val (.int (x3 &&& (3 : Int32))), .val (.int (own_f0_2 x0 x1 x2 x3)), .val (.int (own_f0_3 x0 x1 x2 x3)), .val (.ref a5), .val (.ref a17), .val (.int (1 : Int32))] []))
                  by_cases hq : S169 t174 = (0 : Int32)
                  · rw [if_pos hq] at hif174
                    obtain ⟨Bf, If⟩ := hif174
                    have IVf := IV174.ins (by decide) hm174
                    rw [if_pos hq, if_pos hq] at IVf
                    refine own_Goes.step (fun tq kq => XS.iload Y174.here hx rfl (hb hby at_174) rfl kq) ?_
                    show own_Goes _ _ _ _ _ _ _ (T174.setTop (mkF m 176 #[.val (.long x0), .second, .val (.long x1), .second, .val (.long x2), .second, .val (.int x3), .val (.int (own_f0_1 x0 x1 x2 x3)), .val (.int (x3 &&& (3 : Int32))), .val (.int (own_f0_2 x0 x1 x2 x3)), .val (.int (own_f0_3 x0 x1 x2 x3)), .val (.ref a5), .val (.ref a17), .val (.int (1 : Int32))] [(.int (own_f0_3 x0 x1 x2 x3))]))
                    by_cases hc175 : (own_f0_3 x0 x1 x2 x3) = (0 : Int32)
                    · refine own_Goes.step (fun tq kq => XS.ifYes Y174.here hx rfl (pc0 := 176) (pc' := 191) rfl (hb hby at_176) rfl (XT.i0_eq_t hc175) (by decide) (by decide) kq) ?_
                      show own_Goes _ _ _ _ _ _ _ (T174.setTop (mkF m 191 #[.val (.long x0), .second, .val (.long x1), .second, .val (.long x2), .second, .val (.int x3), .val (.int (own_f0_1 x0 x1 x2 x3)), .val (.int (x3 &&& (3 : Int32))), .val (.int (own_f0_2 x0 x1 x2 x3)), .val (.int (own_f0_3 x0 x1 x2 x3)), .val (.ref a5), .val (.ref a17), .val (.int (1 : Int32))] []))
                      refine own_Goes.step (fun tq kq => XS.aload Y174.here hx rfl (hb hby at_191) rfl rfl kq) ?_
                      show own_Goes _ _ _ _ _ _ _ (T174.setTop (mkF m 193 #[.val (.long x0), .second, .val (.long x1), .second, .val (.long x2), .second, .val (.int x3), .val (.int (own_f0_1 x0 x1 x2 x3)), .val (.int (x3 &&& (3 : Int32))), .val (.int (own_f0_2 x0 x1 x2 x3)), .val (.int (own_f0_3 x0 x1 x2 x3)), .val (.ref a5), .val (.ref a17), .val (.int (1 : Int32))] [(.ref a17)]))
                      obtain ⟨w176, T176, L176, q176, Y176, st176⟩ := own_virt Y174 hx hZ rfl (own_W.exa Bf) hown (own_at hw 89 rfl) (own_at hw 90 rfl) (own_at hw 92 rfl) (own_at hw 91 rfl) (own_at hw 21 rfl) (own_at hw 93 rfl) (by decide) (own_m13a l Z a0 hw [] a17 kA sA dA pA (own_setJ (own_setJ (own_setJ (fun _ => 0) 0 x0) 1 x1) 2 x2) (own_setJ (own_setJ (own_setJ (fun _ => 0) 0 (own_f1_size ((8 : Int64) + (((XT.ushr x3 (4 : Int32)) &&& (7 : Int32)).toInt64)) (own_f0_4 x0 x1 x2 x3))) 1 (own_f1_size ((8 : Int64) + (((XT.ushr x3 (4 : Int32)) &&& (7 : Int32)).toInt64)) (own_f0_4 x0 x1 x2 x3))) 2 (own_f1_size ((8 : Int64) + (((XT.ushr x3 (4 : Int32)) &&& (7 : Int32)).toInt64)) (own_f0_4 x0 x1 x2 x3))) (own_set (own_set (own_set (fun _ => 0) 0 (nar .boolean (own_f7 (own_f1_delete ((8 : Int64) + (((XT.ushr x3 (4 : Int32)) &&& (7 : Int32)).toInt64)) (own_f0_4 x0 x1 x2 x3))))) 1 (nar .boolean (own_f7 (own_f1_delete ((8 : Int64) + (((XT.ushr x3 (4 : Int32)) &&& (7 : Int32)).toInt64)) (own_f0_4 x0 x1 x2 x3))))) 2 (nar .boolean (own_f7 (own_f1_delete ((8 : Int64) + (((XT.ushr x3 (4 : Int32)) &&& (7 : Int32)).toInt64)) (own_f0_4 x0 x1 x2 x3))))) 2 fs174 mx174 am174 (Int32.ofNat ixn169 + (1 : Int32)) iA (own_set S169 t174 (Int32.ofNat (2 + 1))) t174 n0 T174.heap Bf If ht174) (by decide) (W := 0) (by decide) (by decide) (by decide) (g := (mkF m 193 #[.val (.long x0), .second, .val (.long x1), .second, .val (.long x2), .second, .val (.int x3), .val (.int (own_f0_1 x0 x1 x2 x3)), .val (.int (x3 &&& (3 : Int32))), .val (.int (own_f0_2 x0 x1 x2 x3)), .val (.int (own_f0_3 x0 x1 x2 x3)), .val (.ref a5), .val (.ref a17), .val (.int (1 : Int32))] [(.ref a17)])) rfl (by rw [hml]; rfl) (argsL := []) (rest := []) (lenOf pd_13 rfl) rfl (by show 2 * 0 + _ ≤ _; exact Nat.le_of_eq rfl) (hb hby at_193)
                      obtain ⟨rfl, N176, B176, I176⟩ := q176
                      rw [own_setset hq] at I176
                      have Nn176 := Fr.app Nn174 N176
                      refine own_Goes.step st176 ?_
                      show own_Goes _ _ _ _ _ _ _ (T176.setTop (mkF m 196 #[.val (.long x0), .second, .val (.long x1), .second, .val (.long x2), .second, .val (.int x3), .val (.int (own_f0_1 x0 x1 x2 x3)), .val (.int (x3 &&& (3 : Int32))), .val (.int (own_f0_2 x0 x1 x2 x3)), .val (.int (own_f0_3 x0 x1 x2 x3)), .val (.ref a5), .val (.ref a17), .val (.int (1 : Int32))] []))
                      exact JS T176 _ _ Y176 rfl Nn176 _ _ _ _ _ _ _ _ _ _ B176 I176 IV174
                    · refine own_Goes.step (fun tq kq => XS.ifNo Y174.here hx rfl (hb hby at_176) rfl (XT.i0_eq_f hc175) kq) ?_
                      show own_Goes _ _ _ _ _ _ _ (T174.setTop (mkF m 179 #[.val (.long x0), .second, .val (.long x1), .second, .val (.long x2), .second, .val (.int x3), .val (.int (own_f0_1 x0 x1 x2 x3)), .val (.int (x3 &&& (3 : Int32))), .val (.int (own_f0_2 x0 x1 x2 x3)), .val (.int (own_f0_3 x0 x1 x2 x3)), .val (.ref a5), .val (.ref a17), .val (.int (1 : Int32))] []))
                      refine own_Goes.step (fun tq kq => XS.iload Y174.here hx rfl (hb hby at_179) rfl kq) ?_
                      show own_Goes _ _ _ _ _ _ _ (T174.setTop (mkF m 181 #[.val (.long x0), .second, .val (.long x1), .second, .val (.long x2), .second, .val (.int x3), .val (.int (own_f0_1 x0 x1 x2 x3)), .val (.int (x3 &&& (3 : Int32))), .val (.int (own_f0_2 x0 x1 x2 x3)), .val (.int (own_f0_3 x0 x1 x2 x3)), .val (.ref a5), .val (.ref a17), .val (.int (1 : Int32))] [(.int (1 : Int32))]))
                      refine own_Goes.step (fun tq kq => XS.aload Y174.here hx rfl (hb hby at_181) rfl rfl kq) ?_
                      show own_Goes _ _ _ _ _ _ _ (T174.setTop (mkF m 183 #[.val (.long x0), .second, .val (.long x1), .second, .val (.long x2), .second, .val (.int x3), .val (.int (own_f0_1 x0 x1 x2 x3)), .val (.int (x3 &&& (3 : Int32))), .val (.int (own_f0_2 x0 x1 x2 x3)), .val (.int (own_f0_3 x0 x1 x2 x3)), .val (.ref a5), .val (.ref a17), .val (.int (1 : Int32))] [(.ref a17), (.int (1 : Int32))]))
                      refine own_Goes.step (fun tq kq => XT.lload Y174.here hx rfl (hb hby at_183) rfl kq) ?_
                      show own_Goes _ _ _ _ _ _ _ (T174.setTop (mkF m 185 #[.val (.long x0), .second, .val (.long x1), .second, .val (.long x2), .second, .val (.int x3), .val (.int (own_f0_1 x0 x1 x2 x3)), .val (.int (x3 &&& (3 : Int32))), .val (.int (own_f0_2 x0 x1 x2 x3)), .val (.int (own_f0_3 x0 x1 x2 x3)), .val (.ref a5), .val (.ref a17), .val (.int (1 : Int32))] [(.long x2), (.ref a17), (.int (1 : Int32))]))
                      obtain ⟨t177, ht177, hm177⟩ := IVf.find (by decide) x2
                      have hr177 := IVf.says hm177
                      obtain ⟨w177, T177, L177, q177, Y177, st177⟩ := own_virt Y174 hx hZ rfl (own_W.exa Bf) hown (own_at hw 64 rfl) (own_at hw 65 rfl) (own_at hw 67 rfl) (own_at hw 66 rfl) (own_at hw 21 rfl) (own_at hw 68 rfl) (by decide) (own_m8s l Z a0 hw [] a17 x2 kA sA dA pA (own_setJ (own_setJ (own_setJ (fun _ => 0) 0 x0) 1 x1) 2 x2) (own_setJ (own_setJ (own_setJ (fun _ => 0) 0 (own_f1_size ((8 : Int64) + (((XT.ushr x3 (4 : Int32)) &&& (7 : Int32)).toInt64)) (own_f0_4 x0 x1 x2 x3))) 1 (own_f1_size ((8 : Int64) + (((XT.ushr x3 (4 : Int32)) &&& (7 : Int32)).toInt64)) (own_f0_4 x0 x1 x2 x3))) 2 (own_f1_size ((8 : Int64) + (((XT.ushr x3 (4 : Int32)) &&& (7 : Int32)).toInt64)) (own_f0_4 x0 x1 x2 x3))) (own_set (own_set (own_set (fun _ => 0) 0 (nar .boolean (own_f7 (own_f1_delete ((8 : Int64) + (((XT.ushr x3 (4 : Int32)) &&& (7 : Int32)).toInt64)) (own_f0_4 x0 x1 x2 x3))))) 1 (nar .boolean (own_f7 (own_f1_delete ((8 : Int64) + (((XT.ushr x3 (4 : Int32)) &&& (7 : Int32)).toInt64)) (own_f0_4 x0 x1 x2 x3))))) 2 (nar .boolean (own_f7 (own_f1_delete ((8 : Int64) + (((XT.ushr x3 (4 : Int32)) &&& (7 : Int32)).toInt64)) (own_f0_4 x0 x1 x2 x3))))) 3 fs174 mx174 am174 (Int32.ofNat t174) (Int32.ofNat ixn169 + (1 : Int32)) iA (own_set S169 t174 (Int32.ofNat (2 + 1))) t177 (own_mem (own_setJ (own_setJ (own_setJ (fun _ => 0) 0 x0) 1 x1) 2 x2) 3 x2) n0 T174.heap Bf If (IVf.1.ok (by decide)) hm177 ht177 hr177) (by decide) (W := 1) (by decide) (by decide) (by decide) (g := (mkF m 185 #[.val (.long x0), .second, .val (.long x1), .second, .val (.long x2), .second, .val (.int x3), .val (.int (own_f0_1 x0 x1 x2 x3)), .val (.int (x3 &&& (3 : Int32))), .val (.int (own_f0_2 x0 x1 x2 x3)), .val (.int (own_f0_3 x0 x1 x2 x3)), .val (.ref a5), .val (.ref a17), .val (.int (1 : Int32))] [(.long x2), (.ref a17), (.int (1 : Int32))])) rfl (by rw [hml]; rfl) (argsL := [(.long x2)]) (rest := [(.int (1 : Int32))]) (lenOf pd_8 rfl) rfl (by show 2 * 0 + _ ≤ _; exact Nat.le_of_eq rfl) (hb hby at_185)
                      obtain ⟨e177, X177⟩ := own_clean q177 Y177 rfl rfl
                      obtain ⟨rfl, -, -⟩ := q177
                      rw [show own_bi (own_mem (own_setJ (own_setJ (own_setJ (fun _ => 0) 0 x0) 1 x1) 2 x2) 3 x2) = (1 : Int32) from own_hit rfl] at st177
                      refine own_Goes.step st177 ?_
                      show own_Goes _ _ _ _ _ _ _ (T177.setTop (mkF m 188 #[.val (.long x0), .second, .val (.long x1), .second, .val (.long x2), .second, .val (.int x3), .val (.int (own_f0_1 x0 x1 x2 x3)), .val (.int (x3 &&& (3 : Int32))), .val (.int (own_f0_2 x0 x1 x2 x3)), .val (.int (own_f0_3 x0 x1 x2 x3)), .val (.ref a5), .val (.ref a17), .val (.int (1 : Int32))] [(.int (1 : Int32)), (.int (1 : Int32))]))
                      refine own_Goes.step (fun tq kq => XS.iand X177.here hx rfl (hb hby at_188) rfl kq) ?_
                      show own_Goes _ _ _ _ _ _ _ (T177.setTop (mkF m 189 #[.val (.long x0), .second, .val (.long x1), .second, .val (.long x2), .second, .val (.int x3), .val (.int (own_f0_1 x0 x1 x2 x3)), .val (.int (x3 &&& (3 : Int32))), .val (.int (own_f0_2 x0 x1 x2 x3)), .val (.int (own_f0_3 x0 x1 x2 x3)), .val (.ref a5), .val (.ref a17), .val (.int (1 : Int32))] [(.int (1 : Int32))]))
                      refine own_Goes.step (fun tq kq => XS.istore X177.here hx rfl (hb hby at_189) rfl (l' := #[.val (.long x0), .second, .val (.long x1), .second, .val (.long x2), .second, .val (.int x3), .val (.int (own_f0_1 x0 x1 x2 x3)), .val (.int (x3 &&& (3 : Int32))), .val (.int (own_f0_2 x0 x1 x2 x3)), .val (.int (own_f0_3 x0 x1 x2 x3)), .val (.ref a5), .val (.ref a17), .val (.int (1 : Int32))]) rfl kq) ?_
                      show own_Goes _ _ _ _ _ _ _ (T177.setTop (mkF m 191 #[.val (.long x0), .second, .val (.long x1), .second, .val (.long x2), .second, .val (.int x3), .val (.int (own_f0_1 x0 x1 x2 x3)), .val (.int (x3 &&& (3 : Int32))), .val (.int (own_f0_2 x0 x1 x2 x3)), .val (.int (own_f0_3 x0 x1 x2 x3)), .val (.ref a5), .val (.ref a17), .val (.int (1 : Int32))] []))
                      refine own_Goes.step (fun tq kq => XS.aload X177.here hx rfl (hb hby at_191) rfl rfl kq) ?_
                      show own_Goes _ _ _ _ _ _ _ (T177.setTop (mkF m 193 #[.val (.long x0), .second, .val (.long x1), .second, .val (.long x2), .second, .val (.int x3), .val (.int (own_f0_1 x0 x1 x2 x3)), .val (.int (x3 &&& (3 : Int32))), .val (.int (own_f0_2 x0 x1 x2 x3)), .val (.int (own_f0_3 x0 x1 x2 x3)), .val (.ref a5), .val (.ref a17), .val (.int (1 : Int32))] [(.ref a17)]))
                      obtain ⟨w178, T178, L178, q178, Y178, st178⟩ := own_virt X177 hx hZ e177 (own_W.exa Bf) hown (own_at hw 89 rfl) (own_at hw 90 rfl) (own_at hw 92 rfl) (own_at hw 91 rfl) (own_at hw 21 rfl) (own_at hw 93 rfl) (by decide) (own_m13a l Z a0 hw [] a17 kA sA dA pA (own_setJ (own_setJ (own_setJ (fun _ => 0) 0 x0) 1 x1) 2 x2) (own_setJ (own_setJ (own_setJ (fun _ => 0) 0 (own_f1_size ((8 : Int64) + (((XT.ushr x3 (4 : Int32)) &&& (7 : Int32)).toInt64)) (own_f0_4 x0 x1 x2 x3))) 1 (own_f1_size ((8 : Int64) + (((XT.ushr x3 (4 : Int32)) &&& (7 : Int32)).toInt64)) (own_f0_4 x0 x1 x2 x3))) 2 (own_f1_size ((8 : Int64) + (((XT.ushr x3 (4 : Int32)) &&& (7 : Int32)).toInt64)) (own_f0_4 x0 x1 x2 x3))) (own_set (own_set (own_set (fun _ => 0) 0 (nar .boolean (own_f7 (own_f1_delete ((8 : Int64) + (((XT.ushr x3 (4 : Int32)) &&& (7 : Int32)).toInt64)) (own_f0_4 x0 x1 x2 x3))))) 1 (nar .boolean (own_f7 (own_f1_delete ((8 : Int64) + (((XT.ushr x3 (4 : Int32)) &&& (7 : Int32)).toInt64)) (own_f0_4 x0 x1 x2 x3))))) 2 (nar .boolean (own_f7 (own_f1_delete ((8 : Int64) + (((XT.ushr x3 (4 : Int32)) &&& (7 : Int32)).toInt64)) (own_f0_4 x0 x1 x2 x3))))) 2 fs174 mx174 am174 (Int32.ofNat ixn169 + (1 : Int32)) iA (own_set S169 t174 (Int32.ofNat (2 + 1))) t174 n0 T174.heap Bf If ht174) (by decide) (W := 0) (by decide) (by decide) (by decide) (g := (mkF m 193 #[.val (.long x0), .second, .val (.long x1), .second, .val (.long x2), .second, .val (.int x3), .val (.int (own_f0_1 x0 x1 x2 x3)), .val (.int (x3 &&& (3 : Int32))), .val (.int (own_f0_2 x0 x1 x2 x3)), .val (.int (own_f0_3 x0 x1 x2 x3)), .val (.ref a5), .val (.ref a17), .val (.int (1 : Int32))] [(.ref a17)])) rfl (by rw [hml]; rfl) (argsL := []) (rest := []) (lenOf pd_13 rfl) rfl (by show 2 * 0 + _ ≤ _; exact Nat.le_of_eq rfl) (hb hby at_193)
                      obtain ⟨rfl, N178, B178, I178⟩ := q178
                      rw [own_setset hq] at I178
                      have Nn178 := Fr.app Nn174 N178
                      refine own_Goes.step st178 ?_
                      show own_Goes _ _ _ _ _ _ _ (T178.setTop (mkF m 196 #[.val (.long x0), .second, .val (.long x1), .second, .val (.long x2), .second, .val (.int x3), .val (.int (own_f0_1 x0 x1 x2 x3)), .val (.int (x3 &&& (3 : Int32))), .val (.int (own_f0_2 x0 x1 x2 x3)), .val (.int (own_f0_3 x0 x1 x2 x3)), .val (.ref a5), .val (.ref a17), .val (.int (1 : Int32))] []))
                      exact JS T178 _ _ Y178 rfl Nn178 _ _ _ _ _ _ _ _ _ _ B178 I178 IV174
                  · rw [if_neg hq] at hif174
                    obtain ⟨Bf, If⟩ := hif174
                    have IVf := IV174.ins (by decide) hm174
                    rw [if_neg hq, if_neg hq] at IVf
                    refine own_Goes.step (fun tq kq => XS.iload Y174.here hx rfl (hb hby at_174) rfl kq) ?_
                    show own_Goes _ _ _ _ _ _ _ (T174.setTop (mkF m 176 #[.val (.long x0), .second, .val (.long x1), .second, .val (.long x2), .second, .val (.int x3), .val (.int (own_f0_1 x0 x1 x2 x3)), .val (.int (x3 &&& (3 : Int32))), .val (.int (own_f0_2 x0 x1 x2 x3)), .val (.int (own_f0_3 x0 x1 x2 x3)), .val (.ref a5), .val (.ref a17), .val (.int (1 : Int32))] [(.int (own_f0_3 x0 x1 x2 x3))]))
                    by_cases hc179 : (own_f0_3 x0 x1 x2 x3) = (0 : Int32)
                    · refine own_Goes.step (fun tq kq => XS.ifYes Y174.here hx rfl (pc0 := 176) (pc' := 191) rfl (hb hby at_176) rfl (XT.i0_eq_t hc179) (by decide) (by decide) kq) ?_
                      show own_Goes _ _ _ _ _ _ _ (T174.setTop (mkF m 191 #[.val (.long x0), .second, .val (.long x1), .second, .val (.long x2), .second, .val (.int x3), .val (.int (own_f0_1 x0 x1 x2 x3)), .val (.int (x3 &&& (3 : Int32))), .val (.int (own_f0_2 x0 x1 x2 x3)), .val (.int (own_f0_3 x0 x1 x2 x3)), .val (.ref a5), .val (.ref a17), .val (.int (1 : Int32))] []))
                      refine own_Goes.step (fun tq kq => XS.aload Y174.here hx rfl (hb hby at_191) rfl rfl kq) ?_
                      show own_Goes _ _ _ _ _ _ _ (T174.setTop (mkF m 193 #[.val (.long x0), .second, .val (.long x1), .second, .val (.long x2), .second, .val (.int x3), .val (.int (own_f0_1 x0 x1 x2 x3)), .val (.int (x3 &&& (3 : Int32))), .val (.int (own_f0_2 x0 x1 x2 x3)), .val (.int (own_f0_3 x0 x1 x2 x3)), .val (.ref a5), .val (.ref a17), .val (.int (1 : Int32))] [(.ref a17)]))
                      obtain ⟨w180, T180, L180, q180, Y180, st180⟩ := own_virt Y174 hx hZ rfl (own_W.exa Bf) hown (own_at hw 89 rfl) (own_at hw 90 rfl) (own_at hw 92 rfl) (own_at hw 91 rfl) (own_at hw 21 rfl) (own_at hw 93 rfl) (by decide) (own_m13m l Z a0 hw [] a17 kA sA dA pA (own_setJ (own_setJ (own_setJ (fun _ => 0) 0 x0) 1 x1) 2 x2) (own_setJ (own_setJ (own_setJ (fun _ => 0) 0 (own_f1_size ((8 : Int64) + (((XT.ushr x3 (4 : Int32)) &&& (7 : Int32)).toInt64)) (own_f0_4 x0 x1 x2 x3))) 1 (own_f1_size ((8 : Int64) + (((XT.ushr x3 (4 : Int32)) &&& (7 : Int32)).toInt64)) (own_f0_4 x0 x1 x2 x3))) 2 (own_f1_size ((8 : Int64) + (((XT.ushr x3 (4 : Int32)) &&& (7 : Int32)).toInt64)) (own_f0_4 x0 x1 x2 x3))) (own_set (own_set (own_set (fun _ => 0) 0 (nar .boolean (own_f7 (own_f1_delete ((8 : Int64) + (((XT.ushr x3 (4 : Int32)) &&& (7 : Int32)).toInt64)) (own_f0_4 x0 x1 x2 x3))))) 1 (nar .boolean (own_f7 (own_f1_delete ((8 : Int64) + (((XT.ushr x3 (4 : Int32)) &&& (7 : Int32)).toInt64)) (own_f0_4 x0 x1 x2 x3))))) 2 (nar .boolean (own_f7 (own_f1_delete ((8 : Int64) + (((XT.ushr x3 (4 : Int32)) &&& (7 : Int32)).toInt64)) (own_f0_4 x0 x1 x2 x3))))) 2 fs174 mx174 am174 (Int32.ofNat ixn169) iA S169 n0 T174.heap Bf If) (by decide) (W := 0) (by decide) (by decide) (by decide) (g := (mkF m 193 #[.val (.long x0), .second, .val (.long x1), .second, .val (.long x2), .second, .val (.int x3), .val (.int (own_f0_1 x0 x1 x2 x3)), .val (.int (x3 &&& (3 : Int32))), .val (.int (own_f0_2 x0 x1 x2 x3)), .val (.int (own_f0_3 x0 x1 x2 x3)), .val (.ref a5), .val (.ref a17), .val (.int (1 : Int32))] [(.ref a17)])) rfl (by rw [hml]; rfl) (argsL := []) (rest := []) (lenOf pd_13 rfl) rfl (by show 2 * 0 + _ ≤ _; exact Nat.le_of_eq rfl) (hb hby at_193)
                      obtain ⟨rfl, N180, B180, I180⟩ := q180
                      have Nn180 := Fr.app Nn174 N180
                      refine own_Goes.step st180 ?_
                      show own_Goes _ _ _ _ _ _ _ (T180.setTop (mkF m 196 #[.val (.long x0), .second, .val (.long x1), .second, .val (.long x2), .second, .val (.int x3), .val (.int (own_f0_1 x0 x1 x2 x3)), .val (.int (x3 &&& (3 : Int32))), .val (.int (own_f0_2 x0 x1 x2 x3)), .val (.int (own_f0_3 x0 x1 x2 x3)), .val (.ref a5), .val (.ref a17), .val (.int (1 : Int32))] []))
                      exact JS T180 _ _ Y180 rfl Nn180 _ _ _ _ _ _ _ _ _ _ B180 I180 IV174
                    · refine own_Goes.step (fun tq kq => XS.ifNo Y174.here hx rfl (hb hby at_176) rfl (XT.i0_eq_f hc179) kq) ?_
                      show own_Goes _ _ _ _ _ _ _ (T174.setTop (mkF m 179 #[.val (.long x0), .second, .val (.long x1), .second, .val (.long x2), .second, .val (.int x3), .val (.int (own_f0_1 x0 x1 x2 x3)), .val (.int (x3 &&& (3 : Int32))), .val (.int (own_f0_2 x0 x1 x2 x3)), .val (.int (own_f0_3 x0 x1 x2 x3)), .val (.ref a5), .val (.ref a17), .val (.int (1 : Int32))] []))
                      refine own_Goes.step (fun tq kq => XS.iload Y174.here hx rfl (hb hby at_179) rfl kq) ?_
                      show own_Goes _ _ _ _ _ _ _ (T174.setTop (mkF m 181 #[.val (.long x0), .second, .val (.long x1), .second, .val (.long x2), .second, .val (.int x3), .val (.int (own_f0_1 x0 x1 x2 x3)), .val (.int (x3 &&& (3 : Int32))), .val (.int (own_f0_2 x0 x1 x2 x3)), .val (.int (own_f0_3 x0 x1 x2 x3)), .val (.ref a5), .val (.ref a17), .val (.int (1 : Int32))] [(.int (1 : Int32))]))
                      refine own_Goes.step (fun tq kq => XS.aload Y174.here hx rfl (hb hby at_181) rfl rfl kq) ?_
                      show own_Goes _ _ _ _ _ _ _ (T174.setTop (mkF m 183 #[.val (.long x0), .second, .val (.long x1), .second, .val (.long x2), .second, .val (.int x3), .val (.int (own_f0_1 x0 x1 x2 x3)), .val (.int (x3 &&& (3 : Int32))), .val (.int (own_f0_2 x0 x1 x2 x3)), .val (.int (own_f0_3 x0 x1 x2 x3)), .val (.ref a5), .val (.ref a17), .val (.int (1 : Int32))] [(.ref a17), (.int (1 : Int32))]))
                      refine own_Goes.step (fun tq kq => XT.lload Y174.here hx rfl (hb hby at_183) rfl kq) ?_
                      show own_Goes _ _ _ _ _ _ _ (T174.setTop (mkF m 185 #[.val (.long x0), .second, .val (.long x1), .second, .val (.long x2), .second, .val (.int x3), .val (.int (own_f0_1 x0 x1 x2 x3)), .val (.int (x3 &&& (3 : Int32))), .val (.int (own_f0_2 x0 x1 x2 x3)), .val (.int (own_f0_3 x0 x1 x2 x3)), .val (.ref a5), .val (.ref a17), .val (.int (1 : Int32))] [(.long x2), (.ref a17), (.int (1 : Int32))]))
                      obtain ⟨t181, ht181, hm181⟩ := IVf.find (by decide) x2
                      have hr181 := IVf.says hm181
                      obtain ⟨w181, T181, L181, q181, Y181, st181⟩ := own_virt Y174 hx hZ rfl (own_W.exa Bf) hown (own_at hw 64 rfl) (own_at hw 65 rfl) (own_at hw 67 rfl) (own_at hw 66 rfl) (own_at hw 21 rfl) (own_at hw 68 rfl) (by decide) (own_m8s l Z a0 hw [] a17 x2 kA sA dA pA (own_setJ (own_setJ (own_setJ (fun _ => 0) 0 x0) 1 x1) 2 x2) (own_setJ (own_setJ (own_setJ (fun _ => 0) 0 (own_f1_size ((8 : Int64) + (((XT.ushr x3 (4 : Int32)) &&& (7 : Int32)).toInt64)) (own_f0_4 x0 x1 x2 x3))) 1 (own_f1_size ((8 : Int64) + (((XT.ushr x3 (4 : Int32)) &&& (7 : Int32)).toInt64)) (own_f0_4 x0 x1 x2 x3))) 2 (own_f1_size ((8 : Int64) + (((XT.ushr x3 (4 : Int32)) &&& (7 : Int32)).toInt64)) (own_f0_4 x0 x1 x2 x3))) (own_set (own_set (own_set (fun _ => 0) 0 (nar .boolean (own_f7 (own_f1_delete ((8 : Int64) + (((XT.ushr x3 (4 : Int32)) &&& (7 : Int32)).toInt64)) (own_f0_4 x0 x1 x2 x3))))) 1 (nar .boolean (own_f7 (own_f1_delete ((8 : Int64) + (((XT.ushr x3 (4 : Int32)) &&& (7 : Int32)).toInt64)) (own_f0_4 x0 x1 x2 x3))))) 2 (nar .boolean (own_f7 (own_f1_delete ((8 : Int64) + (((XT.ushr x3 (4 : Int32)) &&& (7 : Int32)).toInt64)) (own_f0_4 x0 x1 x2 x3))))) 3 fs174 mx174 am174 (-1 : Int32) (Int32.ofNat ixn169) iA S169 t181 (own_mem (own_setJ (own_setJ (own_setJ (fun _ => 0) 0 x0) 1 x1) 2 x2) 3 x2) n0 T174.heap Bf If (IVf.1.ok (by decide)) hm181 ht181 hr181) (by decide) (W := 1) (by decide) (by decide) (by decide) (g := (mkF m 185 #[.val (.long x0), .second, .val (.long x1), .second, .val (.long x2), .second, .val (.int x3), .val (.int (own_f0_1 x0 x1 x2 x3)), .val (.int (x3 &&& (3 : Int32))), .val (.int (own_f0_2 x0 x1 x2 x3)), .val (.int (own_f0_3 x0 x1 x2 x3)), .val (.ref a5), .val (.ref a17), .val (.int (1 : Int32))] [(.long x2), (.ref a17), (.int (1 : Int32))])) rfl (by rw [hml]; rfl) (argsL := [(.long x2)]) (rest := [(.int (1 : Int32))]) (lenOf pd_8 rfl) rfl (by show 2 * 0 + _ ≤ _; exact Nat.le_of_eq rfl) (hb hby at_185)
                      obtain ⟨e181, X181⟩ := own_clean q181 Y181 rfl rfl
                      obtain ⟨rfl, -, -⟩ := q181
                      rw [show own_bi (own_mem (own_setJ (own_setJ (own_setJ (fun _ => 0) 0 x0) 1 x1) 2 x2) 3 x2) = (1 : Int32) from own_hit rfl] at st181
                      refine own_Goes.step st181 ?_
                      show own_Goes _ _ _ _ _ _ _ (T181.setTop (mkF m 188 #[.val (.long x0), .second, .val (.long x1), .second, .val (.long x2), .second, .val (.int x3), .val (.int (own_f0_1 x0 x1 x2 x3)), .val (.int (x3 &&& (3 : Int32))), .val (.int (own_f0_2 x0 x1 x2 x3)), .val (.int (own_f0_3 x0 x1 x2 x3)), .val (.ref a5), .val (.ref a17), .val (.int (1 : Int32))] [(.int (1 : Int32)), (.int (1 : Int32))]))
                      refine own_Goes.step (fun tq kq => XS.iand X181.here hx rfl (hb hby at_188) rfl kq) ?_
                      show own_Goes _ _ _ _ _ _ _ (T181.setTop (mkF m 189 #[.val (.long x0), .second, .val (.long x1), .second, .val (.long x2), .second, .val (.int x3), .val (.int (own_f0_1 x0 x1 x2 x3)), .val (.int (x3 &&& (3 : Int32))), .val (.int (own_f0_2 x0 x1 x2 x3)), .val (.int (own_f0_3 x0 x1 x2 x3)), .val (.ref a5), .val (.ref a17), .val (.int (1 : Int32))] [(.int (1 : Int32))]))
                      refine own_Goes.step (fun tq kq => XS.istore X181.here hx rfl (hb hby at_189) rfl (l' := #[.val (.long x0), .second, .val (.long x1), .second, .val (.long x2), .second, .val (.int x3), .val (.int (own_f0_1 x0 x1 x2 x3)), .val (.int (x3 &&& (3 : Int32))), .val (.int (own_f0_2 x0 x1 x2 x3)), .val (.int (own_f0_3 x0 x1 x2 x3)), .val (.ref a5), .val (.ref a17), .val (.int (1 : Int32))]) rfl kq) ?_
                      show own_Goes _ _ _ _ _ _ _ (T181.setTop (mkF m 191 #[.val (.long x0), .second, .val (.long x1), .second, .val (.long x2), .second, .val (.int x3), .val (.int (own_f0_1 x0 x1 x2 x3)), .val (.int (x3 &&& (3 : Int32))), .val (.int (own_f0_2 x0 x1 x2 x3)), .val (.int (own_f0_3 x0 x1 x2 x3)), .val (.ref a5), .val (.ref a17), .val (.int (1 : Int32))] []))
                      refine own_Goes.step (fun tq kq => XS.aload X181.here hx rfl (hb hby at_191) rfl rfl kq) ?_
                      show own_Goes _ _ _ _ _ _ _ (T181.setTop (mkF m 193 #[.val (.long x0), .second, .val (.long x1), .second, .val (.long x2), .second, .val (.int x3), .val (.int (own_f0_1 x0 x1 x2 x3)), .val (.int (x3 &&& (3 : Int32))), .val (.int (own_f0_2 x0 x1 x2 x3)), .val (.int (own_f0_3 x0 x1 x2 x3)), .val (.ref a5), .val (.ref a17), .val (.int (1 : Int32))] [(.ref a17)]))
                      obtain ⟨w182, T182, L182, q182, Y182, st182⟩ := own_virt X181 hx hZ e181 (own_W.exa Bf) hown (own_at hw 89 rfl) (own_at hw 90 rfl) (own_at hw 92 rfl) (own_at hw 91 rfl) (own_at hw 21 rfl) (own_at hw 93 rfl) (by decide) (own_m13m l Z a0 hw [] a17 kA sA dA pA (own_setJ (own_setJ (own_setJ (fun _ => 0) 0 x0) 1 x1) 2 x2) (own_setJ (own_setJ (own_setJ (fun _ => 0) 0 (own_f1_size ((8 : Int64) + (((XT.ushr x3 (4 : Int32)) &&& (7 : Int32)).toInt64)) (own_f0_4 x0 x1 x2 x3))) 1 (own_f1_size ((8 : Int64) + (((XT.ushr x3 (4 : Int32)) &&& (7 : Int32)).toInt64)) (own_f0_4 x0 x1 x2 x3))) 2 (own_f1_size ((8 : Int64) + (((XT.ushr x3 (4 : Int32)) &&& (7 : Int32)).toInt64)) (own_f0_4 x0 x1 x2 x3))) (own_set (own_set (own_set (fun _ => 0) 0 (nar .boolean (own_f7 (own_f1_delete ((8 : Int64) + (((XT.ushr x3 (4 : Int32)) &&& (7 : Int32)).toInt64)) (own_f0_4 x0 x1 x2 x3))))) 1 (nar .boolean (own_f7 (own_f1_delete ((8 : Int64) + (((XT.ushr x3 (4 : Int32)) &&& (7 : Int32)).toInt64)) (own_f0_4 x0 x1 x2 x3))))) 2 (nar .boolean (own_f7 (own_f1_delete ((8 : Int64) + (((XT.ushr x3 (4 : Int32)) &&& (7 : Int32)).toInt64)) (own_f0_4 x0 x1 x2 x3))))) 2 fs174 mx174 am174 (Int32.ofNat ixn169) iA S169 n0 T174.heap Bf If) (by decide) (W := 0) (by decide) (by decide) (by decide) (g := (mkF m 193 #[.val (.long x0), .second, .val (.long x1), .second, .val (.long x2), .second, .val (.int x3), .val (.int (own_f0_1 x0 x1 x2 x3)), .val (.int (x3 &&& (3 : Int32))), .val (.int (own_f0_2 x0 x1 x2 x3)), .val (.int (own_f0_3 x0 x1 x2 x3)), .val (.ref a5), .val (.ref a17), .val (.int (1 : Int32))] [(.ref a17)])) rfl (by rw [hml]; rfl) (argsL := []) (rest := []) (lenOf pd_13 rfl) rfl (by show 2 * 0 + _ ≤ _; exact Nat.le_of_eq rfl) (hb hby at_193)
                      obtain ⟨rfl, N182, B182, I182⟩ := q182
                      have Nn182 := Fr.app Nn174 N182
                      refine own_Goes.step st182 ?_
                      show own_Goes _ _ _ _ _ _ _ (T182.setTop (mkF m 196 #[.val (.long x0), .second, .val (.long x1), .second, .val (.long x2), .second, .val (.int x3), .val (.int (own_f0_1 x0 x1 x2 x3)), .val (.int (x3 &&& (3 : Int32))), .val (.int (own_f0_2 x0 x1 x2 x3)), .val (.int (own_f0_3 x0 x1 x2 x3)), .val (.ref a5), .val (.ref a17), .val (.int (1 : Int32))] []))
                      exact JS T182 _ _ Y182 rfl Nn182 _ _ _ _ _ _ _ _ _ _ B182 I182 IV174
          by_cases hc9 : ((XT.ushr x3 (7 : Int32)) &&& (1 : Int32)) = (0 : Int32)
          · refine own_Goes.step (fun tq kq => XS.ifYes X5.here hx rfl (pc0 := 78) (pc' := 85) rfl (hb hby at_78) rfl (XT.i0_eq_t hc9) (by decide) (by decide) kq) ?_
            show own_Goes _ _ _ _ _ _ _ (T5.setTop (mkF m 85 #[.val (.long x0), .second, .val (.long x1), .second, .val (.long x2), .second, .val (.int x3), .val (.int (own_f0_1 x0 x1 x2 x3)), .val (.int (x3 &&& (3 : Int32))), .val (.int (own_f0_2 x0 x1 x2 x3)), .val (.int (own_f0_3 x0 x1 x2 x3)), .unset, .unset, .unset] [(.long ((8 : Int64) + (((XT.ushr x3 (4 : Int32)) &&& (7 : Int32)).toInt64))), (.ref a5), (.ref a5)]))
            refine own_Goes.step (fun tq kq => XT.iconstV X5.here hx rfl (0 : Int32) (hb hby at_85) (by decide) kq) ?_
            show own_Goes _ _ _ _ _ _ _ (T5.setTop (mkF m 86 #[.val (.long x0), .second, .val (.long x1), .second, .val (.long x2), .second, .val (.int x3), .val (.int (own_f0_1 x0 x1 x2 x3)), .val (.int (x3 &&& (3 : Int32))), .val (.int (own_f0_2 x0 x1 x2 x3)), .val (.int (own_f0_3 x0 x1 x2 x3)), .unset, .unset, .unset] [(.int (0 : Int32)), (.long ((8 : Int64) + (((XT.ushr x3 (4 : Int32)) &&& (7 : Int32)).toInt64))), (.ref a5), (.ref a5)]))
            rw [show (own_f0_4 x0 x1 x2 x3) = (0 : Int32) from by simp only [own_f0_4, if_pos hc9]] at J183
            exact J183
          · refine own_Goes.step (fun tq kq => XS.ifNo X5.here hx rfl (hb hby at_78) rfl (XT.i0_eq_f hc9) kq) ?_
            show own_Goes _ _ _ _ _ _ _ (T5.setTop (mkF m 81 #[.val (.long x0), .second, .val (.long x1), .second, .val (.long x2), .second, .val (.int x3), .val (.int (own_f0_1 x0 x1 x2 x3)), .val (.int (x3 &&& (3 : Int32))), .val (.int (own_f0_2 x0 x1 x2 x3)), .val (.int (own_f0_3 x0 x1 x2 x3)), .unset, .unset, .unset] [(.long ((8 : Int64) + (((XT.ushr x3 (4 : Int32)) &&& (7 : Int32)).toInt64))), (.ref a5), (.ref a5)]))
            refine own_Goes.step (fun tq kq => XT.iconstV X5.here hx rfl (1 : Int32) (hb hby at_81) (by decide) kq) ?_
            show own_Goes _ _ _ _ _ _ _ (T5.setTop (mkF m 82 #[.val (.long x0), .second, .val (.long x1), .second, .val (.long x2), .second, .val (.int x3), .val (.int (own_f0_1 x0 x1 x2 x3)), .val (.int (x3 &&& (3 : Int32))), .val (.int (own_f0_2 x0 x1 x2 x3)), .val (.int (own_f0_3 x0 x1 x2 x3)), .unset, .unset, .unset] [(.int (1 : Int32)), (.long ((8 : Int64) + (((XT.ushr x3 (4 : Int32)) &&& (7 : Int32)).toInt64))), (.ref a5), (.ref a5)]))
            refine own_Goes.step (fun tq kq => XS.goto X5.here hx rfl (pc0 := 82) (pc' := 86) rfl (hb hby at_82) (by decide) (by decide) kq) ?_
            show own_Goes _ _ _ _ _ _ _ (T5.setTop (mkF m 86 #[.val (.long x0), .second, .val (.long x1), .second, .val (.long x2), .second, .val (.int x3), .val (.int (own_f0_1 x0 x1 x2 x3)), .val (.int (x3 &&& (3 : Int32))), .val (.int (own_f0_2 x0 x1 x2 x3)), .val (.int (own_f0_3 x0 x1 x2 x3)), .unset, .unset, .unset] [(.int (1 : Int32)), (.long ((8 : Int64) + (((XT.ushr x3 (4 : Int32)) &&& (7 : Int32)).toInt64))), (.ref a5), (.ref a5)]))
            rw [show (own_f0_4 x0 x1 x2 x3) = (1 : Int32) from by simp only [own_f0_4, if_neg hc9]] at J183
            exact J183
        by_cases hc4 : (x3 &&& (3 : Int32)) < (2 : Int32)
        · refine own_Goes.step (fun tq kq => XS.icmpYes X0.here hx rfl (pc0 := 45) (pc' := 52) rfl (hb hby at_45) rfl (XT.ii_lt_t hc4) (by decide) (by decide) kq) ?_
          show own_Goes _ _ _ _ _ _ _ (s₁.setTop (mkF m 52 #[.val (.long x0), .second, .val (.long x1), .second, .val (.long x2), .second, .val (.int x3), .val (.int (own_f0_1 x0 x1 x2 x3)), .val (.int (x3 &&& (3 : Int32))), .val (.int (own_f0_2 x0 x1 x2 x3)), .unset, .unset, .unset, .unset] []))
          refine own_Goes.step (fun tq kq => XT.iconstV X0.here hx rfl (0 : Int32) (hb hby at_52) (by decide) kq) ?_
          show own_Goes _ _ _ _ _ _ _ (s₁.setTop (mkF m 53 #[.val (.long x0), .second, .val (.long x1), .second, .val (.long x2), .second, .val (.int x3), .val (.int (own_f0_1 x0 x1 x2 x3)), .val (.int (x3 &&& (3 : Int32))), .val (.int (own_f0_2 x0 x1 x2 x3)), .unset, .unset, .unset, .unset] [(.int (0 : Int32))]))
          rw [show (own_f0_3 x0 x1 x2 x3) = (0 : Int32) from by simp only [own_f0_3, if_pos hc4]] at J184
          exact J184
        · refine own_Goes.step (fun tq kq => XS.icmpNo X0.here hx rfl (hb hby at_45) rfl (XT.ii_lt_f hc4) kq) ?_
          show own_Goes _ _ _ _ _ _ _ (s₁.setTop (mkF m 48 #[.val (.long x0), .second, .val (.long x1), .second, .val (.long x2), .second, .val (.int x3), .val (.int (own_f0_1 x0 x1 x2 x3)), .val (.int (x3 &&& (3 : Int32))), .val (.int (own_f0_2 x0 x1 x2 x3)), .unset, .unset, .unset, .unset] []))
          refine own_Goes.step (fun tq kq => XT.iconstV X0.here hx rfl (1 : Int32) (hb hby at_48) (by decide) kq) ?_
          show own_Goes _ _ _ _ _ _ _ (s₁.setTop (mkF m 49 #[.val (.long x0), .second, .val (.long x1), .second, .val (.long x2), .second, .val (.int x3), .val (.int (own_f0_1 x0 x1 x2 x3)), .val (.int (x3 &&& (3 : Int32))), .val (.int (own_f0_2 x0 x1 x2 x3)), .unset, .unset, .unset, .unset] [(.int (1 : Int32))]))
          refine own_Goes.step (fun tq kq => XS.goto X0.here hx rfl (pc0 := 49) (pc' := 53) rfl (hb hby at_49) (by decide) (by decide) kq) ?_
          show own_Goes _ _ _ _ _ _ _ (s₁.setTop (mkF m 53 #[.val (.long x0), .second, .val (.long x1), .second, .val (.long x2), .second, .val (.int x3), .val (.int (own_f0_1 x0 x1 x2 x3)), .val (.int (x3 &&& (3 : Int32))), .val (.int (own_f0_2 x0 x1 x2 x3)), .unset, .unset, .unset, .unset] [(.int (1 : Int32))]))
          rw [show (own_f0_3 x0 x1 x2 x3) = (1 : Int32) from by simp only [own_f0_3, if_neg hc4]] at J184
          exact J184
      by_cases hc2 : (x3 &&& (3 : Int32)) = (1 : Int32)
      · refine own_Goes.step (fun tq kq => XS.icmpYes X0.here hx rfl (pc0 := 26) (pc' := 35) rfl (hb hby at_26) rfl (XT.ii_eq_t hc2) (by decide) (by decide) kq) ?_
        show own_Goes _ _ _ _ _ _ _ (s₁.setTop (mkF m 35 #[.val (.long x0), .second, .val (.long x1), .second, .val (.long x2), .second, .val (.int x3), .val (.int (own_f0_1 x0 x1 x2 x3)), .val (.int (x3 &&& (3 : Int32))), .unset, .unset, .unset, .unset, .unset] []))
        refine own_Goes.step (fun tq kq => XT.iconstV X0.here hx rfl (1 : Int32) (hb hby at_35) (by decide) kq) ?_
        show own_Goes _ _ _ _ _ _ _ (s₁.setTop (mkF m 36 #[.val (.long x0), .second, .val (.long x1), .second, .val (.long x2), .second, .val (.int x3), .val (.int (own_f0_1 x0 x1 x2 x3)), .val (.int (x3 &&& (3 : Int32))), .unset, .unset, .unset, .unset, .unset] [(.int (1 : Int32))]))
        refine own_Goes.step (fun tq kq => XS.goto X0.here hx rfl (pc0 := 36) (pc' := 40) rfl (hb hby at_36) (by decide) (by decide) kq) ?_
        show own_Goes _ _ _ _ _ _ _ (s₁.setTop (mkF m 40 #[.val (.long x0), .second, .val (.long x1), .second, .val (.long x2), .second, .val (.int x3), .val (.int (own_f0_1 x0 x1 x2 x3)), .val (.int (x3 &&& (3 : Int32))), .unset, .unset, .unset, .unset, .unset] [(.int (1 : Int32))]))
        rw [show (own_f0_2 x0 x1 x2 x3) = (1 : Int32) from by simp only [own_f0_2, if_pos hc2]] at J185
        exact J185
      · refine own_Goes.step (fun tq kq => XS.icmpNo X0.here hx rfl (hb hby at_26) rfl (XT.ii_eq_f hc2) kq) ?_
        show own_Goes _ _ _ _ _ _ _ (s₁.setTop (mkF m 29 #[.val (.long x0), .second, .val (.long x1), .second, .val (.long x2), .second, .val (.int x3), .val (.int (own_f0_1 x0 x1 x2 x3)), .val (.int (x3 &&& (3 : Int32))), .unset, .unset, .unset, .unset, .unset] []))
        refine own_Goes.step (fun tq kq => XS.iload X0.here hx rfl (hb hby at_29) rfl kq) ?_
        show own_Goes _ _ _ _ _ _ _ (s₁.setTop (mkF m 31 #[.val (.long x0), .second, .val (.long x1), .second, .val (.long x2), .second, .val (.int x3), .val (.int (own_f0_1 x0 x1 x2 x3)), .val (.int (x3 &&& (3 : Int32))), .unset, .unset, .unset, .unset, .unset] [(.int (x3 &&& (3 : Int32)))]))
        refine own_Goes.step (fun tq kq => XT.iconstV X0.here hx rfl (3 : Int32) (hb hby at_31) (by decide) kq) ?_
        show own_Goes _ _ _ _ _ _ _ (s₁.setTop (mkF m 32 #[.val (.long x0), .second, .val (.long x1), .second, .val (.long x2), .second, .val (.int x3), .val (.int (own_f0_1 x0 x1 x2 x3)), .val (.int (x3 &&& (3 : Int32))), .unset, .unset, .unset, .unset, .unset] [(.int (3 : Int32)), (.int (x3 &&& (3 : Int32)))]))
        by_cases hc3 : (x3 &&& (3 : Int32)) = (3 : Int32)
        · refine own_Goes.step (fun tq kq => XS.icmpNo X0.here hx rfl (hb hby at_32) rfl (XT.ii_ne_f hc3) kq) ?_
          show own_Goes _ _ _ _ _ _ _ (s₁.setTop (mkF m 35 #[.val (.long x0), .second, .val (.long x1), .second, .val (.long x2), .second, .val (.int x3), .val (.int (own_f0_1 x0 x1 x2 x3)), .val (.int (x3 &&& (3 : Int32))), .unset, .unset, .unset, .unset, .unset] []))
          refine own_Goes.step (fun tq kq => XT.iconstV X0.here hx rfl (1 : Int32) (hb hby at_35) (by decide) kq) ?_
          show own_Goes _ _ _ _ _ _ _ (s₁.setTop (mkF m 36 #[.val (.long x0), .second, .val (.long x1), .second, .val (.long x2), .second, .val (.int x3), .val (.int (own_f0_1 x0 x1 x2 x3)), .val (.int (x3 &&& (3 : Int32))), .unset, .unset, .unset, .unset, .unset] [(.int (1 : Int32))]))
          refine own_Goes.step (fun tq kq => XS.goto X0.here hx rfl (pc0 := 36) (pc' := 40) rfl (hb hby at_36) (by decide) (by decide) kq) ?_
          show own_Goes _ _ _ _ _ _ _ (s₁.setTop (mkF m 40 #[.val (.long x0), .second, .val (.long x1), .second, .val (.long x2), .second, .val (.int x3), .val (.int (own_f0_1 x0 x1 x2 x3)), .val (.int (x3 &&& (3 : Int32))), .unset, .unset, .unset, .unset, .unset] [(.int (1 : Int32))]))
          rw [show (own_f0_2 x0 x1 x2 x3) = (1 : Int32) from by simp only [own_f0_2, if_neg hc2, if_pos hc3]] at J185
          exact J185
        · refine own_Goes.step (fun tq kq => XS.icmpYes X0.here hx rfl (pc0 := 32) (pc' := 39) rfl (hb hby at_32) rfl (XT.ii_ne_t hc3) (by decide) (by decide) kq) ?_
          show own_Goes _ _ _ _ _ _ _ (s₁.setTop (mkF m 39 #[.val (.long x0), .second, .val (.long x1), .second, .val (.long x2), .second, .val (.int x3), .val (.int (own_f0_1 x0 x1 x2 x3)), .val (.int (x3 &&& (3 : Int32))), .unset, .unset, .unset, .unset, .unset] []))
          refine own_Goes.step (fun tq kq => XT.iconstV X0.here hx rfl (0 : Int32) (hb hby at_39) (by decide) kq) ?_
          show own_Goes _ _ _ _ _ _ _ (s₁.setTop (mkF m 40 #[.val (.long x0), .second, .val (.long x1), .second, .val (.long x2), .second, .val (.int x3), .val (.int (own_f0_1 x0 x1 x2 x3)), .val (.int (x3 &&& (3 : Int32))), .unset, .unset, .unset, .unset, .unset] [(.int (0 : Int32))]))
          rw [show (own_f0_2 x0 x1 x2 x3) = (0 : Int32) from by simp only [own_f0_2, if_neg hc2, if_neg hc3]] at J185
          exact J185
    by_cases hc1 : ((XT.ushr x3 (2 : Int32)) &&& (3 : Int32)) = (3 : Int32)
    · refine own_Goes.step (fun tq kq => XS.icmpNo X0.here hx rfl (hb hby at_11) rfl (XT.ii_ne_f hc1) kq) ?_
      show own_Goes _ _ _ _ _ _ _ (s₁.setTop (mkF m 14 #[.val (.long x0), .second, .val (.long x1), .second, .val (.long x2), .second, .val (.int x3), .val (.int ((XT.ushr x3 (2 : Int32)) &&& (3 : Int32))), .unset, .unset, .unset, .unset, .unset, .unset] []))
      refine own_Goes.step (fun tq kq => XT.iconstV X0.here hx rfl (2 : Int32) (hb hby at_14) (by decide) kq) ?_
      show own_Goes _ _ _ _ _ _ _ (s₁.setTop (mkF m 15 #[.val (.long x0), .second, .val (.long x1), .second, .val (.long x2), .second, .val (.int x3), .val (.int ((XT.ushr x3 (2 : Int32)) &&& (3 : Int32))), .unset, .unset, .unset, .unset, .unset, .unset] [(.int (2 : Int32))]))
      refine own_Goes.step (fun tq kq => XS.istore X0.here hx rfl (hb hby at_15) rfl (l' := #[.val (.long x0), .second, .val (.long x1), .second, .val (.long x2), .second, .val (.int x3), .val (.int (2 : Int32)), .unset, .unset, .unset, .unset, .unset, .unset]) rfl kq) ?_
      show own_Goes _ _ _ _ _ _ _ (s₁.setTop (mkF m 17 #[.val (.long x0), .second, .val (.long x1), .second, .val (.long x2), .second, .val (.int x3), .val (.int (2 : Int32)), .unset, .unset, .unset, .unset, .unset, .unset] []))
      rw [show (own_f0_1 x0 x1 x2 x3) = (2 : Int32) from by simp only [own_f0_1, if_pos hc1]] at J186
      exact J186
    · refine own_Goes.step (fun tq kq => XS.icmpYes X0.here hx rfl (pc0 := 11) (pc' := 17) rfl (hb hby at_11) rfl (XT.ii_ne_t hc1) (by decide) (by decide) kq) ?_
      show own_Goes _ _ _ _ _ _ _ (s₁.setTop (mkF m 17 #[.val (.long x0), .second, .val (.long x1), .second, .val (.long x2), .second, .val (.int x3), .val (.int ((XT.ushr x3 (2 : Int32)) &&& (3 : Int32))), .unset, .unset, .unset, .unset, .unset, .unset] []))
      rw [show (own_f0_1 x0 x1 x2 x3) = ((XT.ushr x3 (2 : Int32)) &&& (3 : Int32)) from by simp only [own_f0_1, if_neg hc1]] at J186
      exact J186
  obtain ⟨t2, o2, q1, q2, q3, q4⟩ := hgo
  exact ⟨t2, o2, castTop (ef_0 m x0 x1 x2 x3) q1, q2, q3, q4⟩

set_option maxRecDepth 65536 in
set_option maxHeartbeats 40000000 in
theorem comes_1 {Post : Tables → Env → Array Value → State → Outcome → State → Prop} (hpost : ∀ tb e args s v u, (limb_1_1.after args s (.returned v) u = true ∧ limb_1_2.after args s (.returned v) u = true ∧ True) → FrameEnd s (.returned v) u (Jvm.fieldLocs frame_1_writes args s ++ Jvm.arrayLocs frame_1_arrays args s ++ Jvm.staticLocs frame_1_statics s) 24 256 → Post tb e args s (.returned v) u) :
    ArmFor flags0 classFile x code maxLocals ret World_1 tables_1 room_1 Calls_1 rest_1 Pre_1 Post := by
  intro l hfl _ _ p e ha hc hk s m args below hf hA hF happ hP
  obtain ⟨hcalls, hrest, hpre⟩ := hP
  obtain ⟨-, -, -, hnamed, -, -, -, hat⟩ := (Spec.applies_iff hf).mp happ
  obtain ⟨hg, hn⟩ := and_e (Cond.before_iff.mp (show (Jvm.Cond.and given_1 narrow_1).before args s = true from hpre))
  obtain ⟨hcount, hr0⟩ := and_e hg
  obtain ⟨w0, w1, w2, w3, rfl⟩ : ∃ w0 w1 w2 w3 : Value, args = #[w0, w1, w2, w3] := by
    have hs : args.size = 4 := by simpa [Cond.value, given_1] using hcount
    obtain ⟨L⟩ := args
    match L, hs with
    | [w0, w1, w2, w3], _ => exact ⟨w0, w1, w2, w3, rfl⟩
  have hw := fun d (hd : d ∈ tables_1) => atoms_spec (ws := Jvm.Cond.code x code maxLocals ret :: tables_1) hat d (List.mem_cons_of_mem _ hd)
  obtain ⟨ha0, hr1⟩ := and_e hr0
  obtain ⟨i0, ev0⟩ := isL_v ha0
  obtain rfl : w0 = (.long i0) := Option.some.inj ev0
  obtain ⟨ha1, hr2⟩ := and_e hr1
  obtain ⟨i1, ev1⟩ := isL_v ha1
  obtain rfl : w1 = (.long i1) := Option.some.inj ev1
  obtain ⟨ha2, hr3⟩ := and_e hr2
  obtain ⟨i2, ev2⟩ := isL_v ha2
  obtain rfl : w2 = (.long i2) := Option.some.inj ev2
  obtain ⟨i3, ev3⟩ := is_v hr3
  obtain rfl : w3 = (.int i3) := Option.some.inj ev3
  obtain ⟨n, o, h1, h2, h3, _, L, rfl, ⟨rfl, N⟩, hq⟩ := own_m0 l s _ hw tables_1 i0 i1 i2 i3 s.heap.size s.heap (Nat.le_refl _) p e ha hc hk s m _ below hf ((Spec.applies_iff_loose hf).mp happ).1 ⟨rfl, State.Warmed39.refl s, rfl⟩ trivial
  refine ⟨n, _, h1, h2, h3, hpost _ _ _ _ _ _ ⟨Cond.after_iff.mpr rfl, Cond.after_iff.mpr (eq_i res_at (Term.int_eval (1)) rfl), trivial⟩ ⟨hq.1, hq.2.1, (hq.2.2.sift fun y hy => Or.inr (N y hy)).mono (by decide) (by decide)⟩⟩
theorem main_1_1 : Claimed_1_1 := comes_1 fun _ _ _ _ _ _ h hF => ⟨h.1, hF⟩
theorem main_1_2 : Claimed_1_2 := comes_1 fun _ _ _ _ _ _ h hF => ⟨h.2.1, hF⟩
end Jvm.Pilot.@@N@@
namespace Jvm.Pilot.@@N@@
open Jvm Jvm.ClassFile Sem Op Lib Jvm.Free Jvm.Stand Jvm.Pilot.@@N@@.Jvm.D
/-! MADE BY PROGRAM (witnessworld.py) out of the Statement's table words and the real class files: 16 classes; the members and pool entries that the words name. The judged class is class 1, her method 2. -/
namespace start1
open Jvm.ClassFile
def u (s : String) : CpInfo := .utf8 (stringToUtf16 s)
/-- a pool by its gaps: so many unusable entries, then the entry; so many at the end -/
def gap : Nat → List CpInfo → List CpInfo
  | 0, r => r
  | n + 1, r => .unusable :: gap n r
def poolList (es : List (Nat × CpInfo)) (last : Nat) : List CpInfo := es.foldr (fun e r => gap e.1 (e.2 :: r)) (gap last [])
def pool (es : List (Nat × CpInfo)) (last : Nat) : Array CpInfo := ⟨poolList es last⟩
def fileOf (pool : Array CpInfo) (this : Nat) (attrs : Array Attribute := #[]) (ms : Array MethodInfo := #[]) (fl : Nat := 33) (sup : Nat := 0) (ifs : Array Nat := #[]) (fds : Array FieldInfo := #[]) : ClassFile where
  minorVersion := 0
  majorVersion := 65
  constantPool := pool
  accessFlags := fl
  thisClass := this
  superClass := sup
  interfaces := ifs
  fields := fds
  methods := ms
  attributes := attrs
def plain (name : String) (sup : Option ClassId) : Class where
  name := name
  kind := .ordinary
  loader := none
  accessFlags := 33
  super := sup
  interfaces := #[]
  cf := none
  fields := #[]
  methods := #[]
  instanceTypes := #[]
  staticTypes := #[]
  resolved := #[]
  callSites := []
  init := .initialized
  statics := none
  mirror := none

def pool0 : Array CpInfo := pool [(5, u "<init>"), (0, u "()V"), (1, .class_ 10), (1, u "java/lang/Object")] 113

def k0c0 : Code := { maxStack := 0, maxLocals := 1, code := object_method_1_code, exceptionTable := #[], attributes := #[] }
def k0m0 : Method := { name := "<init>", desc := "()V", sig := { parameters := [], returnType := none }, accessFlags := 1, code := some k0c0 }
/-- java/lang/Object -/
def k0 : Class := { plain "java/lang/Object" none with
  accessFlags := 33
  interfaces := #[]
  cf := some (fileOf pool0 8 #[] #[{ accessFlags := 1, nameIndex := 5, descriptorIndex := 6, attributes := #[] }] 33 0 #[] #[])
  fields := #[]
  methods := #[k0m0]
  instanceTypes := #[]
  staticTypes := #[]
  resolved := Array.replicate 124 none
  statics := none }

def pool1 : Array CpInfo := pool [(2, .class_ 4), (0, .nameAndType 5 6), (0, u "java/lang/Object"), (0, u "<init>"), (0, u "()V"), (0, .class_ 8), (0, u "com/example/strati/strati/sim/Entry"), (0, .long 8), (1, .methodref 7 12), (0, .nameAndType 5 13), (0, u "(JZ)V"), (0, .class_ 15), (0, u "com/example/strati/strati/sim/WriteBuffer"), (0, .methodref 14 3), (0, .methodref 14 18), (0, .nameAndType 19 20), (0, u "put"), (0, u "(JLcom/example/strati/strati/sim/Entry;)V"), (0, .methodref 14 22), (0, .nameAndType 23 24), (0, u "holds"), (0, u "(J)Z"), (0, .methodref 26 27), (0, .class_ 28), (0, .nameAndType 29 30), (0, u "com/example/strati/strati/sim/WriteBufferTakeBackLastPutPinLaw"), (0, u "held"), (0, u "(JJJI)Z"), (0, .methodref 14 32), (0, .nameAndType 33 6), (0, u "takeBackLastPut"), (0, .methodref 14 35), (0, .nameAndType 36 37), (0, u "isEmpty"), (0, u "()Z"), (3, u "law")] 2

def k1m0 : Method := { name := "<init>", desc := "()V", sig := { parameters := [], returnType := none }, accessFlags := 1, code := none }
def k1c1 : Code := { maxStack := 4, maxLocals := 7, code := method_2_code, exceptionTable := #[], attributes := #[] }
def k1m1 : Method := { name := "held", desc := "(JJJI)Z", sig := { parameters := [.long, .long, .long, .int], returnType := some .boolean }, accessFlags := 10, code := some k1c1 }
def k1c2 : Code := { maxStack := 9, maxLocals := 14, code := code, exceptionTable := #[], attributes := #[] }
def k1m2 : Method := { name := "law", desc := "(JJJI)Z", sig := { parameters := [.long, .long, .long, .int], returnType := some .boolean }, accessFlags := 9, code := some k1c2 }
/-- com/example/strati/strati/sim/WriteBufferTakeBackLastPutPinLaw -/
def k1 : Class := { plain "com/example/strati/strati/sim/WriteBufferTakeBackLastPutPinLaw" (some 0) with
  accessFlags := 49
  interfaces := #[]
  cf := some (fileOf pool1 26 #[] #[{ accessFlags := 1, nameIndex := 5, descriptorIndex := 6, attributes := #[] }, { accessFlags := 10, nameIndex := 29, descriptorIndex := 30, attributes := #[] }, { accessFlags := 9, nameIndex := 41, descriptorIndex := 30, attributes := #[] }] 49 2 #[] #[])
  fields := #[]
  methods := #[k1m0, k1m1, k1m2]
  instanceTypes := #[]
  staticTypes := #[]
  resolved := Array.replicate 44 none
  statics := none }

def pool2 : Array CpInfo := pool [(1, .methodref 2 3), (0, .class_ 4), (0, .nameAndType 5 6), (0, u "java/lang/Object"), (0, u "<init>"), (0, u "()V"), (0, .class_ 8), (0, u "java/lang/Record")] 13

def k2c0 : Code := { maxStack := 1, maxLocals := 1, code := jdk_30_method_1_code, exceptionTable := #[], attributes := #[] }
def k2m0 : Method := { name := "<init>", desc := "()V", sig := { parameters := [], returnType := none }, accessFlags := 4, code := some k2c0 }
/-- java/lang/Record -/
def k2 : Class := { plain "java/lang/Record" (some 0) with
  accessFlags := 1057
  interfaces := #[]
  cf := some (fileOf pool2 7 #[] #[{ accessFlags := 4, nameIndex := 5, descriptorIndex := 6, attributes := #[] }] 1057 2 #[] #[])
  fields := #[]
  methods := #[k2m0]
  instanceTypes := #[]
  staticTypes := #[]
  resolved := Array.replicate 22 none
  statics := none }

def pool3 : Array CpInfo := pool [(1, .methodref 2 3), (0, .class_ 4), (0, .nameAndType 5 6), (0, u "java/lang/Record"), (0, u "<init>"), (0, u "()V"), (0, .fieldref 8 9), (0, .class_ 10), (0, .nameAndType 11 12), (0, u "com/example/strati/strati/sim/Entry"), (0, u "size"), (0, u "J"), (0, .fieldref 8 14), (0, .nameAndType 15 16), (0, u "delete"), (0, u "Z"), (19, u "(JZ)V"), (23, u "DELETE"), (0, u "Lcom/example/strati/strati/sim/Entry;"), (0, u "KEY_BYTES"), (10, u "()J"), (0, u "()Z")] 32

def k3c0 : Code := { maxStack := 3, maxLocals := 4, code := prog_35_method_1_code, exceptionTable := #[], attributes := #[] }
def k3m0 : Method := { name := "<init>", desc := "(JZ)V", sig := { parameters := [.long, .boolean], returnType := none }, accessFlags := 0, code := some k3c0 }
def k3c1 : Code := { maxStack := 2, maxLocals := 1, code := prog_35_method_6_code, exceptionTable := #[], attributes := #[] }
def k3m1 : Method := { name := "size", desc := "()J", sig := { parameters := [], returnType := some .long }, accessFlags := 1, code := some k3c1 }
def k3c2 : Code := { maxStack := 1, maxLocals := 1, code := prog_35_method_7_code, exceptionTable := #[], attributes := #[] }
def k3m2 : Method := { name := "delete", desc := "()Z", sig := { parameters := [], returnType := some .boolean }, accessFlags := 1, code := some k3c2 }
/-- com/example/strati/strati/sim/Entry -/
def k3 : Class := { plain "com/example/strati/strati/sim/Entry" (some 2) with
  accessFlags := 48
  interfaces := #[]
  cf := some (fileOf pool3 8 #[] #[{ accessFlags := 0, nameIndex := 5, descriptorIndex := 36, attributes := #[] }, { accessFlags := 1, nameIndex := 11, descriptorIndex := 73, attributes := #[] }, { accessFlags := 1, nameIndex := 15, descriptorIndex := 74, attributes := #[] }] 48 2 #[] #[{ accessFlags := 18, nameIndex := 11, descriptorIndex := 12, attributes := #[] }, { accessFlags := 18, nameIndex := 15, descriptorIndex := 16, attributes := #[] }, { accessFlags := 24, nameIndex := 62, descriptorIndex := 12, attributes := #[] }, { accessFlags := 24, nameIndex := 60, descriptorIndex := 61, attributes := #[] }])
  fields := #[{ name := "size", type := .long, accessFlags := 18, slot := 0, constantValue := 0 }, { name := "delete", type := .boolean, accessFlags := 18, slot := 1, constantValue := 0 }, { name := "KEY_BYTES", type := .long, accessFlags := 24, slot := 0, constantValue := 0 }, { name := "DELETE", type := (.object "com/example/strati/strati/sim/Entry"), accessFlags := 24, slot := 1, constantValue := 0 }]
  methods := #[k3m0, k3m1, k3m2]
  instanceTypes := #[.long, .boolean]
  staticTypes := #[.long, (.object "com/example/strati/strati/sim/Entry")]
  resolved := Array.replicate 107 none
  statics := none }

def pool4 : Array CpInfo := pool [(1, .methodref 2 3), (0, .class_ 4), (0, .nameAndType 5 6), (0, u "java/lang/Object"), (0, u "<init>"), (0, u "()V"), (0, .class_ 8), (0, u "com/example/strati/strati/sim/WriteBuffer"), (0, .fieldref 7 10), (0, .nameAndType 11 12), (0, u "keys"), (0, u "[J"), (0, .fieldref 7 14), (0, .nameAndType 15 12), (0, u "sizes"), (0, .fieldref 7 17), (0, .nameAndType 18 19), (0, u "deletes"), (0, u "[Z"), (0, .fieldref 7 21), (0, .nameAndType 22 23), (0, u "positions"), (0, u "[I"), (0, .fieldref 7 25), (0, .nameAndType 26 27), (0, u "lastAdded"), (0, u "I"), (0, .fieldref 7 29), (0, .nameAndType 30 27), (0, u "count"), (3, .methodref 35 36), (0, .class_ 37), (0, .nameAndType 38 39), (0, u "com/example/strati/strati/sim/Entry"), (0, u "size"), (0, u "()J"), (0, .fieldref 7 41), (0, .nameAndType 42 43), (0, u "firstSize"), (0, u "J"), (0, .fieldref 7 45), (0, .nameAndType 46 47), (0, u "mixedSizes"), (0, u "Z"), (0, .fieldref 7 49), (0, .nameAndType 50 47), (0, u "anyMarker"), (0, .methodref 35 52), (0, .nameAndType 53 54), (0, u "delete"), (0, u "()Z"), (0, .fieldref 7 56), (0, .nameAndType 57 23), (0, u "slots"), (0, .methodref 7 59), (0, .nameAndType 60 61), (0, u "index"), (0, u "(I)V"), (0, .fieldref 7 63), (0, .nameAndType 64 27), (0, u "indexed"), (0, .methodref 7 66), (0, .nameAndType 67 6), (0, u "buildIndex"), (0, .methodref 7 69), (0, .nameAndType 70 71), (0, u "slot"), (0, u "([IJ)I"), (15, .methodref 88 89), (0, .class_ 90), (0, .nameAndType 91 92), (0, u "com/example/strati/strati/sim/SplitMix64"), (0, u "mix"), (0, u "(J)J"), (17, u "FIRST_ROOM"), (2, u "MAX_WRITES"), (2, u "put"), (0, u "(JLcom/example/strati/strati/sim/Entry;)V"), (1, u "takeBackLastPut"), (0, u "holds"), (0, u "(J)Z"), (0, u "isEmpty")] 8

def k4c0 : Code := { maxStack := 2, maxLocals := 1, code := prog_67_method_1_code, exceptionTable := #[], attributes := #[] }
def k4m0 : Method := { name := "<init>", desc := "()V", sig := { parameters := [], returnType := none }, accessFlags := 0, code := some k4c0 }
def k4c1 : Code := { maxStack := 6, maxLocals := 4, code := prog_67_method_2_code, exceptionTable := #[], attributes := #[] }
def k4m1 : Method := { name := "put", desc := "(JLcom/example/strati/strati/sim/Entry;)V", sig := { parameters := [.long, (.object "com/example/strati/strati/sim/Entry")], returnType := none }, accessFlags := 0, code := some k4c1 }
def k4c2 : Code := { maxStack := 3, maxLocals := 1, code := prog_67_method_3_code, exceptionTable := #[], attributes := #[] }
def k4m2 : Method := { name := "takeBackLastPut", desc := "()V", sig := { parameters := [], returnType := none }, accessFlags := 0, code := some k4c2 }
def k4c3 : Code := { maxStack := 5, maxLocals := 3, code := prog_67_method_4_code, exceptionTable := #[], attributes := #[] }
def k4m3 : Method := { name := "holds", desc := "(J)Z", sig := { parameters := [.long], returnType := some .boolean }, accessFlags := 0, code := some k4c3 }
def k4c4 : Code := { maxStack := 1, maxLocals := 1, code := prog_67_method_5_code, exceptionTable := #[], attributes := #[] }
def k4m4 : Method := { name := "isEmpty", desc := "()Z", sig := { parameters := [], returnType := some .boolean }, accessFlags := 0, code := some k4c4 }
def k4c5 : Code := { maxStack := 3, maxLocals := 3, code := prog_67_method_8_code, exceptionTable := #[], attributes := #[] }
def k4m5 : Method := { name := "buildIndex", desc := "()V", sig := { parameters := [], returnType := none }, accessFlags := 2, code := some k4c5 }
def k4c6 : Code := { maxStack := 4, maxLocals := 5, code := prog_67_method_9_code, exceptionTable := #[], attributes := #[] }
def k4m6 : Method := { name := "index", desc := "(I)V", sig := { parameters := [.int], returnType := none }, accessFlags := 2, code := some k4c6 }
def k4c7 : Code := { maxStack := 4, maxLocals := 6, code := prog_67_method_11_code, exceptionTable := #[], attributes := #[] }
def k4m7 : Method := { name := "slot", desc := "([IJ)I", sig := { parameters := [(.array .int), .long], returnType := some .int }, accessFlags := 2, code := some k4c7 }
/-- com/example/strati/strati/sim/WriteBuffer -/
def k4 : Class := { plain "com/example/strati/strati/sim/WriteBuffer" (some 0) with
  accessFlags := 48
  interfaces := #[]
  cf := some (fileOf pool4 7 #[] #[{ accessFlags := 0, nameIndex := 5, descriptorIndex := 6, attributes := #[] }, { accessFlags := 0, nameIndex := 116, descriptorIndex := 117, attributes := #[] }, { accessFlags := 0, nameIndex := 119, descriptorIndex := 6, attributes := #[] }, { accessFlags := 0, nameIndex := 120, descriptorIndex := 121, attributes := #[] }, { accessFlags := 0, nameIndex := 122, descriptorIndex := 54, attributes := #[] }, { accessFlags := 2, nameIndex := 67, descriptorIndex := 6, attributes := #[] }, { accessFlags := 2, nameIndex := 60, descriptorIndex := 61, attributes := #[] }, { accessFlags := 2, nameIndex := 70, descriptorIndex := 71, attributes := #[] }] 48 2 #[] #[{ accessFlags := 26, nameIndex := 110, descriptorIndex := 27, attributes := #[] }, { accessFlags := 26, nameIndex := 113, descriptorIndex := 27, attributes := #[] }, { accessFlags := 2, nameIndex := 11, descriptorIndex := 12, attributes := #[] }, { accessFlags := 2, nameIndex := 15, descriptorIndex := 12, attributes := #[] }, { accessFlags := 2, nameIndex := 18, descriptorIndex := 19, attributes := #[] }, { accessFlags := 2, nameIndex := 30, descriptorIndex := 27, attributes := #[] }, { accessFlags := 2, nameIndex := 42, descriptorIndex := 43, attributes := #[] }, { accessFlags := 2, nameIndex := 46, descriptorIndex := 47, attributes := #[] }, { accessFlags := 2, nameIndex := 50, descriptorIndex := 47, attributes := #[] }, { accessFlags := 2, nameIndex := 22, descriptorIndex := 23, attributes := #[] }, { accessFlags := 2, nameIndex := 57, descriptorIndex := 23, attributes := #[] }, { accessFlags := 2, nameIndex := 64, descriptorIndex := 27, attributes := #[] }, { accessFlags := 2, nameIndex := 26, descriptorIndex := 27, attributes := #[] }])
  fields := #[{ name := "FIRST_ROOM", type := .int, accessFlags := 26, slot := 0, constantValue := 0 }, { name := "MAX_WRITES", type := .int, accessFlags := 26, slot := 1, constantValue := 0 }, { name := "keys", type := (.array .long), accessFlags := 2, slot := 0, constantValue := 0 }, { name := "sizes", type := (.array .long), accessFlags := 2, slot := 1, constantValue := 0 }, { name := "deletes", type := (.array .boolean), accessFlags := 2, slot := 2, constantValue := 0 }, { name := "count", type := .int, accessFlags := 2, slot := 3, constantValue := 0 }, { name := "firstSize", type := .long, accessFlags := 2, slot := 4, constantValue := 0 }, { name := "mixedSizes", type := .boolean, accessFlags := 2, slot := 5, constantValue := 0 }, { name := "anyMarker", type := .boolean, accessFlags := 2, slot := 6, constantValue := 0 }, { name := "positions", type := (.array .int), accessFlags := 2, slot := 7, constantValue := 0 }, { name := "slots", type := (.array .int), accessFlags := 2, slot := 8, constantValue := 0 }, { name := "indexed", type := .int, accessFlags := 2, slot := 9, constantValue := 0 }, { name := "lastAdded", type := .int, accessFlags := 2, slot := 10, constantValue := 0 }]
  methods := #[k4m0, k4m1, k4m2, k4m3, k4m4, k4m5, k4m6, k4m7]
  instanceTypes := #[(.array .long), (.array .long), (.array .boolean), .int, .long, .boolean, .boolean, (.array .int), (.array .int), .int, .int]
  staticTypes := #[.int, .int]
  resolved := Array.replicate 131 none
  statics := none }

def pool5 : Array CpInfo := pool [(2, .class_ 4), (1, u "java/lang/Object"), (3, .class_ 10), (1, u "com/example/strati/strati/sim/SplitMix64"), (0, u "state"), (0, u "J"), (4, u "mix"), (0, u "(J)J"), (10, .long 13787848793156543929), (1, .long 10723151780598845931), (1, u "GAMMA")] 10

def k5c0 : Code := { maxStack := 5, maxLocals := 2, code := prog_54_method_5_code, exceptionTable := #[], attributes := #[] }
def k5m0 : Method := { name := "mix", desc := "(J)J", sig := { parameters := [.long], returnType := some .long }, accessFlags := 8, code := some k5c0 }
/-- com/example/strati/strati/sim/SplitMix64 -/
def k5 : Class := { plain "com/example/strati/strati/sim/SplitMix64" (some 0) with
  accessFlags := 48
  interfaces := #[]
  cf := some (fileOf pool5 8 #[] #[{ accessFlags := 8, nameIndex := 17, descriptorIndex := 18, attributes := #[] }] 48 2 #[] #[{ accessFlags := 26, nameIndex := 33, descriptorIndex := 12, attributes := #[] }, { accessFlags := 2, nameIndex := 11, descriptorIndex := 12, attributes := #[] }])
  fields := #[{ name := "GAMMA", type := .long, accessFlags := 26, slot := 0, constantValue := 0 }, { name := "state", type := .long, accessFlags := 2, slot := 0, constantValue := 0 }]
  methods := #[k5m0]
  instanceTypes := #[.long]
  staticTypes := #[.long]
  resolved := Array.replicate 44 none
  statics := none }

def pool6 : Array CpInfo := pool [(1, u "java/lang/Cloneable"), (0, .class_ 1), (0, u "java/lang/Object"), (0, .class_ 3)] 3

/-- java/lang/Cloneable -/
def k6 : Class := { plain "java/lang/Cloneable" (some 0) with
  accessFlags := 1537
  interfaces := #[]
  cf := some (fileOf pool6 2 #[] #[] 1537 4 #[] #[])
  fields := #[]
  methods := #[]
  instanceTypes := #[]
  staticTypes := #[]
  resolved := Array.replicate 8 none
  statics := none }

def pool7 : Array CpInfo := pool [(1, u "java/io/Serializable"), (0, .class_ 1), (0, u "java/lang/Object"), (0, .class_ 3)] 3

/-- java/io/Serializable -/
def k7 : Class := { plain "java/io/Serializable" (some 0) with
  accessFlags := 1537
  interfaces := #[]
  cf := some (fileOf pool7 2 #[] #[] 1537 4 #[] #[])
  fields := #[]
  methods := #[]
  instanceTypes := #[]
  staticTypes := #[]
  resolved := Array.replicate 8 none
  statics := none }

/-- the primitive boolean -/
def k8 : Class := { plain "boolean" none with kind := .primitive 'Z', accessFlags := 0x411 }
/-- [Z -/
def k9 : Class := { plain "[Z" (some 0) with kind := .array 8 .boolean, interfaces := #[6, 7], accessFlags := 1041 }

/-- the primitive byte -/
def k10 : Class := { plain "byte" none with kind := .primitive 'B', accessFlags := 0x411 }
/-- [B -/
def k11 : Class := { plain "[B" (some 0) with kind := .array 10 .byte, interfaces := #[6, 7], accessFlags := 1041 }

/-- the primitive int -/
def k12 : Class := { plain "int" none with kind := .primitive 'I', accessFlags := 0x411 }
/-- [I -/
def k13 : Class := { plain "[I" (some 0) with kind := .array 12 .int, interfaces := #[6, 7], accessFlags := 1041 }

/-- the primitive long -/
def k14 : Class := { plain "long" none with kind := .primitive 'J', accessFlags := 0x411 }
/-- [J -/
def k15 : Class := { plain "[J" (some 0) with kind := .array 14 .long, interfaces := #[6, 7], accessFlags := 1041 }

def heap : Heap := #[]
def classes : Array Class := #[k0, k1, k2, k3, k4, k5, k6, k7, k8, k9, k10, k11, k12, k13, k14, k15]
def interned : List (Array UInt16 × Addr) := []
def slotsUsed : Nat := 0
def theMethod : MethodId := ⟨1, 2⟩
def args0 : Array Value := #[.long 1, .long 2, .long 3, .int 9]
def aboutOver (below : List Frame) : State where
  vm := { classes := classes, interned := interned.toArray }
  heap := heap
  slotsUsed := slotsUsed
  threads := #[{ frames := .invoking theMethod args0 :: below }]
def below0 : List Frame := [.native { method := ⟨0, 0⟩, args := #[] }]
def about1 : State := aboutOver below0
def p0 : Program := .bare "" "" ""
def e0 : Env := launch0.env 0 0 0
theorem w_frames : about1.frames = Frame.invoking theMethod args0 :: below0 := rfl
set_option maxRecDepth 65536 in
theorem w_args : argsFit about1.vm theMethod args0 = true := by decide +kernel
set_option maxRecDepth 65536 in
theorem w_heap : heapFits about1 = true := by decide +kernel
set_option maxRecDepth 65536 in
theorem w_runnable : about1.curStatus? = some .runnable := by decide +kernel
set_option maxRecDepth 65536 in
theorem w_alone : about1.alone = true := by decide +kernel
set_option maxRecDepth 65536 in
theorem w_named : about1.methodNamed? x = some theMethod := by decide +kernel
set_option maxRecDepth 65536 in
theorem w_hears : about1.hears theMethod below0 = true := by decide +kernel
set_option maxRecDepth 65536 in
theorem w_ripe : about1.ripe theMethod args0 below0 = true := by decide +kernel
theorem w_running : about1.status = .running := rfl
set_option maxRecDepth 65536 in
theorem w_room : about1.hasRoom e0.platform room_1 = true :=
  launch0.hasRoom_least _ room_1 (by decide +kernel) (by decide +kernel) (by decide +kernel) (by decide +kernel) (by decide +kernel) (by decide +kernel)
theorem allAtoms_all (ts : List Jvm.Cond) (a : Array Jvm.Value) (st : Jvm.State) : (allAtoms ts).before a st = ts.all (fun c => c.before a st) := by
  induction ts with
  | nil => rfl
  | cons c t ih =>
    show (Jvm.Cond.and c (allAtoms t)).before a st = _
    rw [Jvm.Cond.before_and, ih, List.all_cons]
def words1 : List Jvm.Cond := Jvm.Cond.code x code maxLocals ret :: tables_1
/-- a 'code' word, met by the world's own term for the bytes: nothing is compared byte by byte -/
theorem code_word {y : MethodName} {bytes : ByteArray} {mx : Nat} {rt : Option FieldType} {a : Array Value} {s : State} {m : MethodId} {meth : Method} {c : Code} (h1 : s.methodNamed? y = some m) (h2 : s.vm.method? m = some meth) (h3 : meth.code = some c) (h4 : c.code = bytes)
    (h5 : (c.maxLocals == mx && c.exceptionTable.isEmpty && decide (c.maxStack ≤ mostOperands) && decide (meth.sig.returnType = rt) && !meth.locks && decide (parseMethodDescriptor y.desc = some meth.sig)) = true) : (Jvm.Cond.code y bytes mx rt).before a s = true := by
  simp only [Bool.and_eq_true, beq_iff_eq, Bool.not_eq_true', decide_eq_true_eq] at h5
  obtain ⟨⟨⟨⟨⟨g1, g2⟩, g3⟩, g4⟩, g5⟩, g6⟩ := h5
  simp [Cond.before, Cond.holds, Cond.value, h1, h2, h3, h4, g1, g2, g3, g4, g5, g6]
def isCode : Jvm.Cond → Bool
  | .code _ _ _ _ => true
  | _ => false
theorem all_split {L : List Jvm.Cond} {P : Jvm.Cond → Bool} (h1 : L.all (fun c => isCode c || P c) = true) (h2 : ∀ c ∈ L.filter isCode, P c = true) : L.all P = true := by
  refine List.all_eq_true.mpr fun c hc => ?_
  have h := List.all_eq_true.mp h1 c hc
  rcases Bool.eq_false_or_eq_true (isCode c) with hi | hi
  · exact h2 c (List.mem_filter.mpr ⟨hc, hi⟩)
  · simpa [hi] using h
set_option maxRecDepth 65536 in
theorem w_c0 : (Jvm.Cond.code x code maxLocals ret).before args0 about1 = true := code_word (m := ⟨1, 2⟩) (meth := k1m2) (c := k1c2) (by decide +kernel) rfl rfl rfl (by decide +kernel)
set_option maxRecDepth 65536 in
theorem w_c1 : (Jvm.Cond.code ({ cls := "com/example/strati/strati/sim/Entry", name := "<init>", desc := "(JZ)V" } : Jvm.MethodName) prog_35_method_1_code (4 : Nat) (Option.none : Option Jvm.ClassFile.FieldType)).before args0 about1 = true := code_word (m := ⟨3, 0⟩) (meth := k3m0) (c := k3c0) (by decide +kernel) rfl rfl rfl (by decide +kernel)
set_option maxRecDepth 65536 in
theorem w_c2 : (Jvm.Cond.code ({ cls := "java/lang/Record", name := "<init>", desc := "()V" } : Jvm.MethodName) jdk_30_method_1_code (1 : Nat) (Option.none : Option Jvm.ClassFile.FieldType)).before args0 about1 = true := code_word (m := ⟨2, 0⟩) (meth := k2m0) (c := k2c0) (by decide +kernel) rfl rfl rfl (by decide +kernel)
set_option maxRecDepth 65536 in
theorem w_c3 : (Jvm.Cond.code ({ cls := "java/lang/Object", name := "<init>", desc := "()V" } : Jvm.MethodName) object_method_1_code (1 : Nat) (Option.none : Option Jvm.ClassFile.FieldType)).before args0 about1 = true := code_word (m := ⟨0, 0⟩) (meth := k0m0) (c := k0c0) (by decide +kernel) rfl rfl rfl (by decide +kernel)
set_option maxRecDepth 65536 in
theorem w_c4 : (Jvm.Cond.code ({ cls := "com/example/strati/strati/sim/WriteBuffer", name := "<init>", desc := "()V" } : Jvm.MethodName) prog_67_method_1_code (1 : Nat) (Option.none : Option Jvm.ClassFile.FieldType)).before args0 about1 = true := code_word (m := ⟨4, 0⟩) (meth := k4m0) (c := k4c0) (by decide +kernel) rfl rfl rfl (by decide +kernel)
set_option maxRecDepth 65536 in
theorem w_c5 : (Jvm.Cond.code ({ cls := "com/example/strati/strati/sim/WriteBuffer", name := "put", desc := "(JLcom/example/strati/strati/sim/Entry;)V" } : Jvm.MethodName) prog_67_method_2_code (4 : Nat) (Option.none : Option Jvm.ClassFile.FieldType)).before args0 about1 = true := code_word (m := ⟨4, 1⟩) (meth := k4m1) (c := k4c1) (by decide +kernel) rfl rfl rfl (by decide +kernel)
set_option maxRecDepth 65536 in
theorem w_c6 : (Jvm.Cond.code ({ cls := "com/example/strati/strati/sim/Entry", name := "size", desc := "()J" } : Jvm.MethodName) prog_35_method_6_code (1 : Nat) (Option.some Jvm.ClassFile.FieldType.long)).before args0 about1 = true := code_word (m := ⟨3, 1⟩) (meth := k3m1) (c := k3c1) (by decide +kernel) rfl rfl rfl (by decide +kernel)
set_option maxRecDepth 65536 in
theorem w_c7 : (Jvm.Cond.code ({ cls := "com/example/strati/strati/sim/Entry", name := "delete", desc := "()Z" } : Jvm.MethodName) prog_35_method_7_code (1 : Nat) (Option.some Jvm.ClassFile.FieldType.boolean)).before args0 about1 = true := code_word (m := ⟨3, 2⟩) (meth := k3m2) (c := k3c2) (by decide +kernel) rfl rfl rfl (by decide +kernel)
set_option maxRecDepth 65536 in
theorem w_c8 : (Jvm.Cond.code ({ cls := "com/example/strati/strati/sim/WriteBuffer", name := "holds", desc := "(J)Z" } : Jvm.MethodName) prog_67_method_4_code (3 : Nat) (Option.some Jvm.ClassFile.FieldType.boolean)).before args0 about1 = true := code_word (m := ⟨4, 3⟩) (meth := k4m3) (c := k4c3) (by decide +kernel) rfl rfl rfl (by decide +kernel)
set_option maxRecDepth 65536 in
theorem w_c9 : (Jvm.Cond.code ({ cls := "com/example/strati/strati/sim/WriteBuffer", name := "buildIndex", desc := "()V" } : Jvm.MethodName) prog_67_method_8_code (3 : Nat) (Option.none : Option Jvm.ClassFile.FieldType)).before args0 about1 = true := code_word (m := ⟨4, 5⟩) (meth := k4m5) (c := k4c5) (by decide +kernel) rfl rfl rfl (by decide +kernel)
set_option maxRecDepth 65536 in
theorem w_c10 : (Jvm.Cond.code ({ cls := "com/example/strati/strati/sim/WriteBuffer", name := "index", desc := "(I)V" } : Jvm.MethodName) prog_67_method_9_code (5 : Nat) (Option.none : Option Jvm.ClassFile.FieldType)).before args0 about1 = true := code_word (m := ⟨4, 6⟩) (meth := k4m6) (c := k4c6) (by decide +kernel) rfl rfl rfl (by decide +kernel)
set_option maxRecDepth 65536 in
theorem w_c11 : (Jvm.Cond.code ({ cls := "com/example/strati/strati/sim/WriteBuffer", name := "slot", desc := "([IJ)I" } : Jvm.MethodName) prog_67_method_11_code (6 : Nat) (Option.some Jvm.ClassFile.FieldType.int)).before args0 about1 = true := code_word (m := ⟨4, 7⟩) (meth := k4m7) (c := k4c7) (by decide +kernel) rfl rfl rfl (by decide +kernel)
set_option maxRecDepth 65536 in
theorem w_c12 : (Jvm.Cond.code ({ cls := "com/example/strati/strati/sim/SplitMix64", name := "mix", desc := "(J)J" } : Jvm.MethodName) prog_54_method_5_code (2 : Nat) (Option.some Jvm.ClassFile.FieldType.long)).before args0 about1 = true := code_word (m := ⟨5, 0⟩) (meth := k5m0) (c := k5c0) (by decide +kernel) rfl rfl rfl (by decide +kernel)
set_option maxRecDepth 65536 in
theorem w_c13 : (Jvm.Cond.code ({ cls := "com/example/strati/strati/sim/WriteBuffer", name := "takeBackLastPut", desc := "()V" } : Jvm.MethodName) prog_67_method_3_code (1 : Nat) (Option.none : Option Jvm.ClassFile.FieldType)).before args0 about1 = true := code_word (m := ⟨4, 2⟩) (meth := k4m2) (c := k4c2) (by decide +kernel) rfl rfl rfl (by decide +kernel)
set_option maxRecDepth 65536 in
theorem w_c14 : (Jvm.Cond.code ({ cls := "com/example/strati/strati/sim/WriteBuffer", name := "isEmpty", desc := "()Z" } : Jvm.MethodName) prog_67_method_5_code (1 : Nat) (Option.some Jvm.ClassFile.FieldType.boolean)).before args0 about1 = true := code_word (m := ⟨4, 4⟩) (meth := k4m4) (c := k4c4) (by decide +kernel) rfl rfl rfl (by decide +kernel)
set_option maxRecDepth 65536 in
theorem w_c15 : (Jvm.Cond.code ({ cls := "com/example/strati/strati/sim/WriteBufferTakeBackLastPutPinLaw", name := "held", desc := "(JJJI)Z" } : Jvm.MethodName) method_2_code (7 : Nat) (Option.some Jvm.ClassFile.FieldType.boolean)).before args0 about1 = true := code_word (m := ⟨1, 1⟩) (meth := k1m1) (c := k1c1) (by decide +kernel) rfl rfl rfl (by decide +kernel)
def codes1 : List Jvm.Cond := [Jvm.Cond.code x code maxLocals ret, Jvm.Cond.code ({ cls := "com/example/strati/strati/sim/Entry", name := "<init>", desc := "(JZ)V" } : Jvm.MethodName) prog_35_method_1_code (4 : Nat) (Option.none : Option Jvm.ClassFile.FieldType), Jvm.Cond.code ({ cls := "java/lang/Record", name := "<init>", desc := "()V" } : Jvm.MethodName) jdk_30_method_1_code (1 : Nat) (Option.none : Option Jvm.ClassFile.FieldType), Jvm.Cond.code ({ cls := "java/lang/Object", name := "<init>", desc := "()V" } : Jvm.MethodName) object_method_1_code (1 : Nat) (Option.none : Option Jvm.ClassFile.FieldType), Jvm.Cond.code ({ cls := "com/example/strati/strati/sim/WriteBuffer", name := "<init>", desc := "()V" } : Jvm.MethodName) prog_67_method_1_code (1 : Nat) (Option.none : Option Jvm.ClassFile.FieldType), Jvm.Cond.code ({ cls := "com/example/strati/strati/sim/WriteBuffer", name := "put", desc := "(JLcom/example/strati/strati/sim/Entry;)V" } : Jvm.MethodName) prog_67_method_2_code (4 : Nat) (Option.none : Option Jvm.ClassFile.FieldType), Jvm.Cond.code ({ cls := "com/example/strati/strati/sim/Entry", name := "size", desc := "()J" } : Jvm.MethodName) prog_35_method_6_code (1 : Nat) (Option.some Jvm.ClassFile.FieldType.long), Jvm.Cond.code ({ cls := "com/example/strati/strati/sim/Entry", name := "delete", desc := "()Z" } : Jvm.MethodName) prog_35_method_7_code (1 : Nat) (Option.some Jvm.ClassFile.FieldType.boolean), Jvm.Cond.code ({ cls := "com/example/strati/strati/sim/WriteBuffer", name := "holds", desc := "(J)Z" } : Jvm.MethodName) prog_67_method_4_code (3 : Nat) (Option.some Jvm.ClassFile.FieldType.boolean), Jvm.Cond.code ({ cls := "com/example/strati/strati/sim/WriteBuffer", name := "buildIndex", desc := "()V" } : Jvm.MethodName) prog_67_method_8_code (3 : Nat) (Option.none : Option Jvm.ClassFile.FieldType), Jvm.Cond.code ({ cls := "com/example/strati/strati/sim/WriteBuffer", name := "index", desc := "(I)V" } : Jvm.MethodName) prog_67_method_9_code (5 : Nat) (Option.none : Option Jvm.ClassFile.FieldType), Jvm.Cond.code ({ cls := "com/example/strati/strati/sim/WriteBuffer", name := "slot", desc := "([IJ)I" } : Jvm.MethodName) prog_67_method_11_code (6 : Nat) (Option.some Jvm.ClassFile.FieldType.int), Jvm.Cond.code ({ cls := "com/example/strati/strati/sim/SplitMix64", name := "mix", desc := "(J)J" } : Jvm.MethodName) prog_54_method_5_code (2 : Nat) (Option.some Jvm.ClassFile.FieldType.long), Jvm.Cond.code ({ cls := "com/example/strati/strati/sim/WriteBuffer", name := "takeBackLastPut", desc := "()V" } : Jvm.MethodName) prog_67_method_3_code (1 : Nat) (Option.none : Option Jvm.ClassFile.FieldType), Jvm.Cond.code ({ cls := "com/example/strati/strati/sim/WriteBuffer", name := "isEmpty", desc := "()Z" } : Jvm.MethodName) prog_67_method_5_code (1 : Nat) (Option.some Jvm.ClassFile.FieldType.boolean), Jvm.Cond.code ({ cls := "com/example/strati/strati/sim/WriteBufferTakeBackLastPutPinLaw", name := "held", desc := "(JJJI)Z" } : Jvm.MethodName) method_2_code (7 : Nat) (Option.some Jvm.ClassFile.FieldType.boolean)]
set_option maxRecDepth 65536 in
theorem codes_eq : words1.filter isCode = codes1 := rfl
theorem w_codes : ∀ c ∈ words1.filter isCode, c.before args0 about1 = true := by
  rw [codes_eq]
  intro c hc
  simp only [codes1, List.mem_cons, List.not_mem_nil, or_false] at hc
  rcases hc with rfl | rfl | rfl | rfl | rfl | rfl | rfl | rfl | rfl | rfl | rfl | rfl | rfl | rfl | rfl | rfl
  · exact w_c0
  · exact w_c1
  · exact w_c2
  · exact w_c3
  · exact w_c4
  · exact w_c5
  · exact w_c6
  · exact w_c7
  · exact w_c8
  · exact w_c9
  · exact w_c10
  · exact w_c11
  · exact w_c12
  · exact w_c13
  · exact w_c14
  · exact w_c15
set_option maxRecDepth 65536 in
theorem w_t1 : (words1.take 24).all (fun c => isCode c || c.before args0 about1) = true := by decide +kernel
set_option maxRecDepth 65536 in
theorem w_t2 : ((words1.drop 24).take 24).all (fun c => isCode c || c.before args0 about1) = true := by decide +kernel
set_option maxRecDepth 65536 in
theorem w_t3 : (((words1.drop 24).drop 24).take 24).all (fun c => isCode c || c.before args0 about1) = true := by decide +kernel
set_option maxRecDepth 65536 in
theorem w_t4 : ((((words1.drop 24).drop 24).drop 24).take 24).all (fun c => isCode c || c.before args0 about1) = true := by decide +kernel
set_option maxRecDepth 65536 in
theorem w_t5 : ((((words1.drop 24).drop 24).drop 24).drop 24).all (fun c => isCode c || c.before args0 about1) = true := by decide +kernel
theorem w_tables : (allAtoms (Jvm.Cond.code x code maxLocals ret :: tables_1)).before args0 about1 = true := by
  rw [allAtoms_all]
  show words1.all (fun c => c.before args0 about1) = true
  refine all_split ?_ w_codes
  rw [← List.take_append_drop 24 words1, List.all_append, w_t1, ← List.take_append_drop 24 (words1.drop 24), List.all_append, w_t2, ← List.take_append_drop 24 ((words1.drop 24).drop 24), List.all_append, w_t3, ← List.take_append_drop 24 (((words1.drop 24).drop 24).drop 24), List.all_append, w_t4, w_t5]
  rfl
set_option maxRecDepth 65536 in
theorem w_case : (Jvm.Cond.and given_1 narrow_1).before args0 about1 = true := by decide +kernel
theorem w_applies : (headSpec (Jvm.Cond.code x code maxLocals ret :: tables_1) room_1).applies x e0.platform about1 = true :=
  (Spec.applies_iff w_frames).mpr ⟨w_running, w_runnable, w_alone, w_named, w_hears, w_ripe, w_room, w_tables⟩
theorem atStart : AtStart classFile x code maxLocals ret World_1 tables_1 room_1 Calls_1 rest_1 Pre_1 launch0 p0 e0 about1 theMethod args0 below0 :=
  ⟨lists_1, trivial, launch0.admits_env _ _ _, launch0.least_env, fairChoices_fair.cas, fairChoices_fair.clock, w_frames, w_args, w_heap, w_applies, trivial, trivial, w_case⟩
end start1
theorem witness_1 : WitnessClaimed_1 := ⟨start1.p0, start1.e0, start1.about1, start1.theMethod, start1.args0, start1.below0, start1.atStart⟩
end Jvm.Pilot.@@N@@
