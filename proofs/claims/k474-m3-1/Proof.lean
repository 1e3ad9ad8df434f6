import JvmDerived
import JvmDerived.Pilot.@@N@@Statement
import JvmDerived.Pilot.@@N@@Code
set_option linter.unusedVariables false
set_option linter.unusedSimpArgs false
@@BLOCK:NumsL.lean.txt@@
namespace Jvm.RoadKit
open Sem ClassFile Op Lib Jvm.Stand Jvm.Free Jvm.LawKit
section New
variable {p : Program} {l : Launch} {e : Env} {R : Room} {s : State} {m : MethodId} {args : Array Value} {below : List Frame} {meth : Method} {c : Code} {T : State} {locs : List Loc} {cells slots : Nat}
theorem retI (X : Stand p l e R s m args below meth c T locs cells slots) (hx : p.tables.exec = Jvm.exec) {pc : Nat} {Ls : Array Slot} {z : Int32} {rest : List Value} (hret : meth.sig.returnType = some .int) (hd : decode c.code pc = .ok (.ireturn, 1)) {fs : List Frame}
    (hl : ∀ (f : JFrame) (acts : List Action), f.method = m → f.locked = none → f.entered = [] → (doReturn e (T.setTop f) acts (some (.int z))).1 = T.setFrames fs) : Steps p.tables e below (T.setTop (mkF m pc Ls (.int z :: rest))) (T.setFrames fs) := by
  have hm' : T.vm.method? m = some meth := X.method'
  have hn : narrow .int (.int z) = .int z := rfl
  show Steps p.tables e below (T.setTop { method := m, pc := pc, locals := Ls, stack := _ :: rest, locked := none }) _
  jvm_step X.here [X.here.top, hx, hd, hm', hret, hn]
  first | (intro acts; rw [hl _ acts rfl rfl rfl]) | rw [hl _ _ rfl rfl rfl]
  exact Steps.refl _
/-- the run from A comes to a return of which F says the value, the heap and the written places -/
def own_Goes (p : Program) (e : Env) (below : List Frame) (s : State) (F : Option Value → Heap → List Loc → Prop) (k n : Nat) (A : State) : Prop :=
  ∃ s₂ o, Steps p.tables e below A s₂ ∧ s₂.status = .running ∧ Ended s₂ below o ∧ ∃ v L, o = .returned v ∧ F v s₂.heap L ∧ FrameEnd s o s₂ L k n
variable {F : Option Value → Heap → List Loc → Prop} {k n : Nat}
theorem own_Goes.step {A B : State} (h : ∀ t, Steps p.tables e below B t → Steps p.tables e below A t) (g : own_Goes p e below s F k n B) : own_Goes p e below s F k n A := by
  obtain ⟨s₂, o, h1, h2⟩ := g
  exact ⟨s₂, o, h _ h1, h2⟩
theorem own_endI (X : Stand p l e R s m args below meth c T locs cells slots) (hx : p.tables.exec = Jvm.exec) (hlk : meth.locks = false) {pc : Nat} {Ls : Array Slot} {z : Int32} {rest : List Value} (hret : meth.sig.returnType = some .int) (hd : decode c.code pc = .ok (.ireturn, 1)) (hF : F (some (.int z)) T.heap locs) (hk : cells ≤ k) (hn : slots ≤ n) :
    own_Goes p e below s F k n (T.setTop (mkF m pc Ls (.int z :: rest))) := by
  obtain ⟨fs, hr, hrun, hended, hW, hsame⟩ := X.leave (v := some (.int z)) (fun h => by rw [hret] at h; cases h) hlk
  exact ⟨_, _, retI X hx hret hd hr, hrun, hended, _, _, rfl, hF, ⟨_, rfl⟩, hW, hsame.mono hk hn⟩
theorem own_endN (X : Stand p l e R s m args below meth c T locs cells slots) (hx : p.tables.exec = Jvm.exec) (hlk : meth.locks = false) {pc : Nat} {Ls : Array Slot} {z : Int32} {t : FieldType} {rest : List Value} (hret : meth.sig.returnType = some t) (ht : t = .boolean ∨ t = .byte ∨ t = .char ∨ t = .short) (hd : decode c.code pc = .ok (.ireturn, 1)) (hF : F (some (.int (nar t z))) T.heap locs) (hk : cells ≤ k) (hn : slots ≤ n) :
    own_Goes p e below s F k n (T.setTop (mkF m pc Ls (.int z :: rest))) := by
  obtain ⟨fs, hr, hrun, hended, hW, hsame⟩ := X.leave (v := some (.int (nar t z))) (fun h => by rw [hret] at h; cases h) hlk
  exact ⟨_, _, retN X hx hret ht hd hr, hrun, hended, _, _, rfl, hF, ⟨_, rfl⟩, hW, hsame.mono hk hn⟩
theorem own_endJ (X : Stand p l e R s m args below meth c T locs cells slots) (hx : p.tables.exec = Jvm.exec) (hlk : meth.locks = false) {pc : Nat} {Ls : Array Slot} {z : Int64} (hret : meth.sig.returnType = some .long) (hd : decode c.code pc = .ok (.lreturn, 1)) (hF : F (some (.long z)) T.heap locs) (hk : cells ≤ k) (hn : slots ≤ n) :
    own_Goes p e below s F k n (T.setTop (mkF m pc Ls [.long z])) := by
  obtain ⟨fs, hr, hrun, hended, hW, hsame⟩ := X.leave (v := some (.long z)) (fun h => by rw [hret] at h; cases h) hlk
  exact ⟨_, _, X.lreturnOut hx hret hd hr, hrun, hended, _, _, rfl, hF, ⟨_, rfl⟩, hW, hsame.mono hk hn⟩
theorem own_endV (X : Stand p l e R s m args below meth c T locs cells slots) (hx : p.tables.exec = Jvm.exec) (hlk : meth.locks = false) {pc : Nat} {Ls : Array Slot} (hret : meth.sig.returnType = none) (hd : decode c.code pc = .ok (.return_, 1)) (hF : F none T.heap locs) (hk : cells ≤ k) (hn : slots ≤ n) :
    own_Goes p e below s F k n (T.setTop (mkF m pc Ls [])) := by
  obtain ⟨fs, hr, hrun, hended, hW, hsame⟩ := X.leave (v := none) (fun _ => rfl) hlk
  exact ⟨_, _, X.returnOut hx hret hd hr, hrun, hended, _, _, rfl, hF, ⟨_, rfl⟩, hW, hsame.mono hk hn⟩
theorem own_endA (X : Stand p l e R s m args below meth c T locs cells slots) (hx : p.tables.exec = Jvm.exec) (hlk : meth.locks = false) {pc : Nat} {Ls : Array Slot} {w : Value} {t : FieldType} (hw : w.isRef = true) (hret : meth.sig.returnType = some t) (ht : t.isReference = true) (hd : decode c.code pc = .ok (.areturn, 1)) (hF : F (some w) T.heap locs) (hk : cells ≤ k) (hn : slots ≤ n) :
    own_Goes p e below s F k n (T.setTop (mkF m pc Ls [w])) := by
  obtain ⟨fs, hr, hrun, hended, hW, hsame⟩ := X.leave (v := some w) (fun h => by rw [hret] at h; cases h) hlk
  exact ⟨_, _, X.areturnOut hx hw hret ht hd hr, hrun, hended, _, _, rfl, hF, ⟨_, rfl⟩, hW, hsame.mono hk hn⟩
theorem own_lrem (x y : Int64) : x - x / y * y = x % y := by
  refine Int64.toInt_inj.mp ?_
  rw [Jvm.Kit.i64_rem, Int64.toInt_mod]
theorem own_lremM {g : JFrame} {target : State} (X : Stand p l e R s m args below meth c T locs cells slots) (hx : p.tables.exec = Jvm.exec) (hg : g.method = m) {x y : Int64} {rest : List Value} (hd : decode c.code g.pc = .ok (.lrem, 1)) (hs : g.stack = .long y :: .long x :: rest) (hy : y ≠ 0)
    (hr : Steps p.tables e below (T.setTop { g with pc := g.pc + 1, stack := .long (x % y) :: rest }) target) : Steps p.tables e below (T.setTop g) target :=
  XT.lrem X.here hx hg hd hs hy (by rw [own_lrem]; exact hr)
/-- the three calls, by a contract in this family, carried forward -/
theorem own_stat {Z : State} {a0 : Array Value} {h : Heap} (X : Stand p l e R s m args below meth c T locs cells slots) (hx : p.tables.exec = Jvm.exec) (hZ : Z.Warmed39 s.vm) (eT : T.heap = h) {own : String} {index : Nat} {y : MethodName} {bytes : ByteArray} {maxL : Nat} {ret : Option FieldType} {rm : Room} {W : Nat} {argsL rest : List Value} {Q : Option Value → Heap → List Loc → Prop}
    (hown : s.vm.findClass own = some m.cls) (wl : (Cond.methodLink own index y).before a0 Z = true) (wst : (Cond.static y).before a0 Z = true) (wi : (Cond.initialized y.cls).before a0 Z = true) (wc : (Cond.code y bytes maxL ret).before a0 Z = true) (hy : y.cls ≠ "java/lang/invoke/MethodHandle" ∧ y.cls ≠ "java/lang/invoke/VarHandle")
    (hM : MetFree l y (head1 [Cond.code y bytes maxL ret] rm) (fun a U => a = argsL.toArray ∧ Z.Warmed39 U.vm ∧ U.heap = h) (fun _ _ _ _ _ => True) (fun _ U o U' => ∃ w L, o = .returned w ∧ Q w U'.heap L ∧ FrameEnd U o U' L rm.cells rm.slots))
    (hf : rm.frames + 1 ≤ R.frames) (hl : W + (maxL + 11) + rm.locals ≤ R.locals) (hcells : cells + rm.cells ≤ R.cells) (hslots : slots + rm.slots ≤ R.slots)
    {g : JFrame} (hg : g.method = m) (hsize : g.locals.size = c.maxLocals) (hlen : ∀ sig, parseMethodDescriptor y.desc = some sig → argsL.length = sig.parameters.length) (hstack : g.stack = argsL.reverse ++ rest) (hW : 2 * g.monitorRoom + (rest.map fun v => v.category).sum ≤ W) (hdg : decode c.code g.pc = .ok (.invokestatic index, 3)) :
    ∃ w T' L, Q w T'.heap L ∧ Stand p l e R s m args below meth c T' (locs ++ L) (cells + rm.cells) (slots + rm.slots) ∧ ∀ t, Steps p.tables e below (T'.setTop { g with pc := g.pc + 3, stack := w.toList ++ rest }) t → Steps p.tables e below (T.setTop g) t := by
  have hB := backOf (R := R) (p := p) (e := e) (below := below) (args := args) (len := 3) (W := W) (Q := Q) hM hZ wc wi hf hl
  obtain ⟨w, vm₁, ⟨U, Lc, k1, n1⟩, -, X', ⟨L, hQ, hL, hC, hS⟩, st⟩ := Jvm.LawKit.callS X hx (y := y) hown (mvT hZ wl) (mvT hZ wst) (mvT hZ wi) (mvT hZ wc) hy hB (g := g) hg hsize hlen hstack hW hdg (fun _ _ => ⟨rfl, eT, hcells, hslots⟩)
  dsimp only [Pt.U, Pt.locs, Pt.cells, Pt.slots] at X' hQ hL hC hS st
  subst hL hC hS
  exact ⟨w, U, L, hQ, X', st⟩
theorem own_spec {Z : State} {a0 : Array Value} {h : Heap} (X : Stand p l e R s m args below meth c T locs cells slots) (hx : p.tables.exec = Jvm.exec) (hZ : Z.Warmed39 s.vm) (eT : T.heap = h) {own : String} {index : Nat} {y : MethodName} {bytes : ByteArray} {maxL : Nat} {rm : Room} {W : Nat} {a : Addr} {argsL rest : List Value} {Q : Option Value → Heap → List Loc → Prop}
    (hy1 : y.name = "<init>") (hown : s.vm.findClass own = some m.cls) (wl : (Cond.methodLink own index y).before a0 Z = true) (wst : (Cond.instanceMethod y).before a0 Z = true) (wi : (Cond.initialized y.cls).before a0 Z = true) (wc : (Cond.code y bytes maxL none).before a0 Z = true) (hy : y.cls ≠ "java/lang/invoke/MethodHandle" ∧ y.cls ≠ "java/lang/invoke/VarHandle")
    (hM : MetFree l y (head1 [Cond.code y bytes maxL none] rm) (fun b U => b = (.ref a :: argsL).toArray ∧ Z.Warmed39 U.vm ∧ U.heap = h) (fun _ _ _ _ _ => True) (fun _ U o U' => ∃ w L, o = .returned w ∧ Q w U'.heap L ∧ FrameEnd U o U' L rm.cells rm.slots))
    (hf : rm.frames + 1 ≤ R.frames) (hl : W + (maxL + 11) + rm.locals ≤ R.locals) (hcells : cells + rm.cells ≤ R.cells) (hslots : slots + rm.slots ≤ R.slots)
    {g : JFrame} (hg : g.method = m) (hsize : g.locals.size = c.maxLocals) (hlen : ∀ sig, parseMethodDescriptor y.desc = some sig → argsL.length = sig.parameters.length) (hstack : g.stack = argsL.reverse ++ .ref a :: rest) (hW : 2 * g.monitorRoom + (rest.map fun v => v.category).sum ≤ W) (hdg : decode c.code g.pc = .ok (.invokespecial index, 3)) :
    ∃ w T' L, Q w T'.heap L ∧ Stand p l e R s m args below meth c T' (locs ++ L) (cells + rm.cells) (slots + rm.slots) ∧ ∀ t, Steps p.tables e below (T'.setTop { g with pc := g.pc + 3, stack := w.toList ++ rest }) t → Steps p.tables e below (T.setTop g) t := by
  have hB := backOf (R := R) (p := p) (e := e) (below := below) (args := args) (len := 3) (W := W) (Q := Q) hM hZ wc wi hf hl
  obtain ⟨w, vm₁, ⟨U, Lc, k1, n1⟩, -, X', ⟨L, hQ, hL, hC, hS⟩, st⟩ := X.specialBack hx (y := y) hy1 hown (mvT hZ wl) (mvT hZ wst) (mvT hZ wc) hy hB (g := g) hg hsize (Steps.refl _) (a := a) hlen hstack hW hdg (fun _ _ => ⟨rfl, eT, hcells, hslots⟩)
  dsimp only [Pt.U, Pt.locs, Pt.cells, Pt.slots] at X' hQ hL hC hS st
  subst hL hC hS
  exact ⟨w, U, L, hQ, X', fun t k => st.trans k⟩
theorem own_virt {Z : State} {a0 : Array Value} {h : Heap} (X : Stand p l e R s m args below meth c T locs cells slots) (hx : p.tables.exec = Jvm.exec) (hZ : Z.Warmed39 s.vm) (eT : T.heap = h) {own C : String} {index : Nat} {y : MethodName} {bytes : ByteArray} {maxL : Nat} {ret : Option FieldType} {rm : Room} {W : Nat} {a : Addr} {argsL rest : List Value} {Q : Option Value → Heap → List Loc → Prop}
    (E : Exa Z h a C) (hown : s.vm.findClass own = some m.cls) (wl : (Cond.methodLink own index y).before a0 Z = true) (wd : (Cond.declares y).before a0 Z = true) (ws : (Cond.selects C y y).before a0 Z = true) (wst : (Cond.instanceMethod y).before a0 Z = true) (wi : (Cond.initialized y.cls).before a0 Z = true) (wc : (Cond.code y bytes maxL ret).before a0 Z = true) (hy : y.cls ≠ "java/lang/invoke/MethodHandle" ∧ y.cls ≠ "java/lang/invoke/VarHandle")
    (hM : MetFree l y (head1 [Cond.code y bytes maxL ret] rm) (fun b U => b = (.ref a :: argsL).toArray ∧ Z.Warmed39 U.vm ∧ U.heap = h) (fun _ _ _ _ _ => True) (fun _ U o U' => ∃ w L, o = .returned w ∧ Q w U'.heap L ∧ FrameEnd U o U' L rm.cells rm.slots))
    (hf : rm.frames + 1 ≤ R.frames) (hl : W + (maxL + 11) + rm.locals ≤ R.locals) (hcells : cells + rm.cells ≤ R.cells) (hslots : slots + rm.slots ≤ R.slots)
    {g : JFrame} (hg : g.method = m) (hsize : g.locals.size = c.maxLocals) (hlen : ∀ sig, parseMethodDescriptor y.desc = some sig → argsL.length = sig.parameters.length) (hstack : g.stack = argsL.reverse ++ .ref a :: rest) (hW : 2 * g.monitorRoom + (rest.map fun v => v.category).sum ≤ W) (hdg : decode c.code g.pc = .ok (.invokevirtual index, 3)) :
    ∃ w T' L, Q w T'.heap L ∧ Stand p l e R s m args below meth c T' (locs ++ L) (cells + rm.cells) (slots + rm.slots) ∧ ∀ t, Steps p.tables e below (T'.setTop { g with pc := g.pc + 3, stack := w.toList ++ rest }) t → Steps p.tables e below (T.setTop g) t := by
  have hB := backOf (R := R) (p := p) (e := e) (below := below) (args := args) (len := 3) (W := W) (Q := Q) hM hZ wc wi hf hl
  obtain ⟨cq, kq, qa, qb, qc⟩ := isOf hZ eT E
  obtain ⟨w, vm₁, ⟨U, Lc, k1, n1⟩, -, X', ⟨L, hQ, hL, hC, hS⟩, st⟩ := X.virtualBack hx (y := y) (z := y) hown (mvT hZ wl) (mvT hZ wd) (notFace_of_selects (args := #[]) (mvT hZ ws)) (mvT hZ ws) (mvT hZ wst) hy hB qa qc (g := g) hg hsize (Steps.refl _) hlen hstack hW hdg (fun _ _ => ⟨rfl, eT, hcells, hslots⟩)
  dsimp only [Pt.U, Pt.locs, Pt.cells, Pt.slots] at X' hQ hL hC hS st
  subst hL hC hS
  exact ⟨w, U, L, hQ, X', fun t k => st.trans k⟩
/-- a private method, by invokevirtual -/
theorem own_priv {Z : State} {a0 : Array Value} {h : Heap} (X : Stand p l e R s m args below meth c T locs cells slots) (hx : p.tables.exec = Jvm.exec) (hZ : Z.Warmed39 s.vm) (eT : T.heap = h) {own C : String} {index kI : Nat} {y : MethodName} {bytes : ByteArray} {maxL : Nat} {ret : Option FieldType} {rm : Room} {W : Nat} {a : Addr} {argsL rest : List Value} {Q : Option Value → Heap → List Loc → Prop}
    (E : Exa Z h a C) (hown : s.vm.findClass own = some m.cls) (wl : (Cond.methodLink own index y).before a0 Z = true) (wp : (Cond.privateMethod y).before a0 Z = true) (wI : (Cond.instantiable y.cls kI).before a0 Z = true) (wst : (Cond.instanceMethod y).before a0 Z = true) (wi : (Cond.initialized y.cls).before a0 Z = true) (wc : (Cond.code y bytes maxL ret).before a0 Z = true) (hy : y.cls ≠ "java/lang/invoke/MethodHandle" ∧ y.cls ≠ "java/lang/invoke/VarHandle")
    (hM : MetFree l y (head1 [Cond.code y bytes maxL ret] rm) (fun b U => b = (.ref a :: argsL).toArray ∧ Z.Warmed39 U.vm ∧ U.heap = h) (fun _ _ _ _ _ => True) (fun _ U o U' => ∃ w L, o = .returned w ∧ Q w U'.heap L ∧ FrameEnd U o U' L rm.cells rm.slots))
    (hf : rm.frames + 1 ≤ R.frames) (hl : W + (maxL + 11) + rm.locals ≤ R.locals) (hcells : cells + rm.cells ≤ R.cells) (hslots : slots + rm.slots ≤ R.slots)
    {g : JFrame} (hg : g.method = m) (hsize : g.locals.size = c.maxLocals) (hlen : ∀ sig, parseMethodDescriptor y.desc = some sig → argsL.length = sig.parameters.length) (hstack : g.stack = argsL.reverse ++ .ref a :: rest) (hW : 2 * g.monitorRoom + (rest.map fun v => v.category).sum ≤ W) (hdg : decode c.code g.pc = .ok (.invokevirtual index, 3)) :
    ∃ w T' L, Q w T'.heap L ∧ Stand p l e R s m args below meth c T' (locs ++ L) (cells + rm.cells) (slots + rm.slots) ∧ ∀ t, Steps p.tables e below (T'.setTop { g with pc := g.pc + 3, stack := w.toList ++ rest }) t → Steps p.tables e below (T.setTop g) t := by
  have hB := backOf (R := R) (p := p) (e := e) (below := below) (args := args) (len := 3) (W := W) (Q := Q) hM hZ wc wi hf hl
  obtain ⟨cl, hcl, hob⟩ := E.cell
  obtain ⟨cI, kk, i1, i2, -, i4, -, -⟩ := Cond.instantiable_spec (mvT (args := args) hZ wI)
  have hni : kk.isInterface = false := by
    rcases Bool.eq_false_or_eq_true kk.isInterface with q | q
    · rw [q] at i4; cases i4
    · exact q
  have hpv := Cond.privateMethod_at (mvP (args := args) hZ wp)
  have hsel := selects_self_of_private (args := args) i1 i2 hni hpv (mvT hZ wst) hy
  obtain ⟨w, vm₁, ⟨U, Lc, k1, n1⟩, -, X', ⟨L, hQ, hL, hC, hS⟩, st⟩ := X.privateBack hx (y := y) hown (mvT hZ wl) (mvT hZ wst) hsel hpv (mvT hZ wc) hy hB (g := g) hg hsize (Steps.refl _) (a := a) (cell := cl) (by rw [eT]; exact hcl) hob hlen hstack hW hdg (fun _ _ => ⟨rfl, eT, hcells, hslots⟩)
  dsimp only [Pt.U, Pt.locs, Pt.cells, Pt.slots] at X' hQ hL hC hS st
  subst hL hC hS
  exact ⟨w, U, L, hQ, X', fun t k => st.trans k⟩
/-- a call that left nothing behind -/
theorem own_clean {h : Heap} {w v : Option Value} {T' : State} {L : List Loc} {k0 n0 : Nat} (q : w = v ∧ L = [] ∧ T'.heap = h) (X : Stand p l e R s m args below meth c T' (locs ++ L) (cells + k0) (slots + n0)) (hk : k0 = 0) (hn : n0 = 0) : T'.heap = h ∧ Stand p l e R s m args below meth c T' locs cells slots := by
  obtain ⟨-, rfl, hh⟩ := q
  subst hk hn
  rw [List.append_nil] at X
  exact ⟨hh, X⟩
theorem own_nin {a b : Addr} (q : b ≠ a) : b ∉ [a] := fun h => q (List.mem_singleton.mp h)
theorem own_kt {h0 : Heap} {ws : List Addr} {a : Addr} (q : a ∈ ws ∨ h0.size ≤ a) : ∀ x ∈ [a], x ∈ ws ∨ h0.size ≤ x := fun x hx => by
  cases List.mem_singleton.mp hx; exact q
end New
end Jvm.RoadKit
namespace Jvm.RoadKit
open Sem ClassFile Op Lib Jvm.Stand Jvm.Free Jvm.LawKit
section Arrays
variable {p : Program} {l : Launch} {e : Env} {R : Room} {s : State} {m : MethodId} {args : Array Value} {below : List Frame} {meth : Method} {c : Code} {T : State} {locs : List Loc} {cells slots : Nat} {Z : State} {a0 : Array Value} {h h' : Heap} {a b : Addr} {ty : FieldType} {n : Nat} {f : Nat → Value}
/-- an array of n places; place i holds f i -/
def own_Ar (Z : State) (h : Heap) (a : Addr) (ty : FieldType) (n : Nat) (f : Nat → Value) : Prop := ∃ c : Cell, Arr Z h a c ty ∧ c.slots.size = n ∧ ∀ i, i < n → c.slots[i]? = some (f i)
theorem own_Ar.lt (F : own_Ar Z h a ty n f) : a < h.size := by obtain ⟨c, A, -⟩ := F; exact A.lt
theorem own_Ar.ext (F : own_Ar Z h a ty n f) (E : Ext h h') : own_Ar Z h' a ty n f := by obtain ⟨c, A, r⟩ := F; exact ⟨c, A.ext E, r⟩
theorem own_Ar.keep {ws : List Addr} (F : own_Ar Z h a ty n f) (K : Keep h h' ws) (q : a ∉ ws) : own_Ar Z h' a ty n f := by obtain ⟨c, A, r⟩ := F; exact ⟨c, ⟨K.2.1 a c A.1 q, A.2⟩, r⟩
theorem own_Ar.other {sl : Nat} {v : Value} (F : own_Ar Z h b ty n f) (W : Wr h h' a sl v) (q : b ≠ a) : own_Ar Z h' b ty n f := by obtain ⟨c, A, r⟩ := F; exact ⟨c, A.other W q, r⟩
theorem own_Ar.set {i : Nat} {v : Value} (F : own_Ar Z h a ty n f) (W : Wr h h' a i v) : own_Ar Z h' a ty n (fun j => if j = i then v else f j) := by
  obtain ⟨c, A, S, H⟩ := F
  refine ⟨c.setSlot i v, A.same W, by rw [sz_set]; exact S, fun j hj => ?_⟩
  show (c.slots.setIfInBounds i v)[j]? = some (if j = i then v else f j)
  rw [Array.getElem?_setIfInBounds]
  by_cases q : i = j
  · subst q
    rw [if_pos rfl, if_pos rfl, if_pos (by rw [S]; exact hj)]
  · rw [if_neg q, if_neg (Ne.symm q)]
    exact H j hj
theorem own_Ar.new {k : ClassId} {z : Int32} (A : Arr Z h a (newA k ty z) ty) : own_Ar Z h a ty z.toNatClampNeg (fun _ => defaultValue ty) := ⟨_, A, sz_new _ _ _, fun i hi => by simp [newA, hi]⟩
theorem own_Ar.congr {f' : Nat → Value} (F : own_Ar Z h a ty n f) (q : ∀ i, i < n → f i = f' i) : own_Ar Z h a ty n f' := by
  obtain ⟨c, A, S, H⟩ := F
  exact ⟨c, A, S, fun i hi => by rw [← q i hi]; exact H i hi⟩
theorem own_idx {j : Int32} {i : Nat} (hj : j.toInt = i) : j.toNatClampNeg = i := by
  show j.toInt.toNat = i
  omega
theorem own_in {j : Int32} {i n : Nat} (hj : j.toInt = i) (hi : i < n) : ¬ (j < 0 ∨ n ≤ j.toNatClampNeg) := by
  rw [own_idx hj, Int32.lt_iff_toInt_lt, Int32.toInt_zero]
  omega
theorem own_alen (X : Stand p l e R s m args below meth c T locs cells slots) (hx : p.tables.exec = Jvm.exec) (hZ : Z.Warmed39 s.vm) (eT : T.heap = h) (F : own_Ar Z h a ty n f) {z : Int32} (hz : n.toInt32 = z)
    {g : JFrame} (hg : g.method = m) {rest : List Value} (hs : g.stack = .ref a :: rest) (hd : decode c.code g.pc = .ok (.arraylength, 1)) : ∀ t, Steps p.tables e below (T.setTop { g with pc := g.pc + 1, stack := .int z :: rest }) t → Steps p.tables e below (T.setTop g) t := by
  obtain ⟨cl, A, S, H⟩ := F
  subst hz
  intro t k
  refine X.arraylength hx (cell := cl) (by rw [eT]; exact A.1) (State.isArrayOf_alike hZ.alike A.2.1) hg hs hd t ?_
  rw [S]
  exact k
theorem own_iald (X : Stand p l e R s m args below meth c T locs cells slots) (hx : p.tables.exec = Jvm.exec) (hZ : Z.Warmed39 s.vm) (eT : T.heap = h) (F : own_Ar Z h a .int n f) {j : Int32} {i : Nat} {v : Value} (hj : j.toInt = i) (hi : i < n) (hv : f i = v)
    {g : JFrame} (hg : g.method = m) {rest : List Value} (hs : g.stack = .int j :: .ref a :: rest) (hd : decode c.code g.pc = .ok (.iaload, 1)) : ∀ t, Steps p.tables e below (T.setTop { g with pc := g.pc + 1, stack := v :: rest }) t → Steps p.tables e below (T.setTop g) t := by
  obtain ⟨cl, A, S, H⟩ := F
  subst hv
  exact X.iaload hx (by rw [eT]; exact A.1) (State.isArrayOf_alike hZ.alike A.2.1) A.2.2 (by rw [S]; exact own_in hj hi) (by rw [own_idx hj]; exact H i hi) hg hs hd
theorem own_lald (X : Stand p l e R s m args below meth c T locs cells slots) (hx : p.tables.exec = Jvm.exec) (hZ : Z.Warmed39 s.vm) (eT : T.heap = h) (F : own_Ar Z h a .long n f) {j : Int32} {i : Nat} {v : Value} (hj : j.toInt = i) (hi : i < n) (hv : f i = v)
    {g : JFrame} (hg : g.method = m) {rest : List Value} (hs : g.stack = .int j :: .ref a :: rest) (hd : decode c.code g.pc = .ok (.laload, 1)) : ∀ t, Steps p.tables e below (T.setTop { g with pc := g.pc + 1, stack := v :: rest }) t → Steps p.tables e below (T.setTop g) t := by
  obtain ⟨cl, A, S, H⟩ := F
  subst hv
  exact X.laload hx (by rw [eT]; exact A.1) (State.isArrayOf_alike hZ.alike A.2.1) A.2.2 (by rw [S]; exact own_in hj hi) (by rw [own_idx hj]; exact H i hi) hg hs hd
theorem own_bald (X : Stand p l e R s m args below meth c T locs cells slots) (hx : p.tables.exec = Jvm.exec) (hZ : Z.Warmed39 s.vm) (eT : T.heap = h) (F : own_Ar Z h a .byte n f) {j : Int32} {i : Nat} {v : Value} (hj : j.toInt = i) (hi : i < n) (hv : f i = v)
    {g : JFrame} (hg : g.method = m) {rest : List Value} (hs : g.stack = .int j :: .ref a :: rest) (hd : decode c.code g.pc = .ok (.baload, 1)) : ∀ t, Steps p.tables e below (T.setTop { g with pc := g.pc + 1, stack := v :: rest }) t → Steps p.tables e below (T.setTop g) t := by
  obtain ⟨cl, A, S, H⟩ := F
  subst hv
  exact X.baloadBytes hx (by rw [eT]; exact A.1) (State.isArrayOf_alike hZ.alike A.2.1) A.2.2 (by rw [S]; exact own_in hj hi) (by rw [own_idx hj]; exact H i hi) hg hs hd
theorem own_zald (X : Stand p l e R s m args below meth c T locs cells slots) (hx : p.tables.exec = Jvm.exec) (hZ : Z.Warmed39 s.vm) (eT : T.heap = h) (F : own_Ar Z h a .boolean n f) {j : Int32} {i : Nat} {v : Value} (hj : j.toInt = i) (hi : i < n) (hv : f i = v)
    {g : JFrame} (hg : g.method = m) {rest : List Value} (hs : g.stack = .int j :: .ref a :: rest) (hd : decode c.code g.pc = .ok (.baload, 1)) : ∀ t, Steps p.tables e below (T.setTop { g with pc := g.pc + 1, stack := v :: rest }) t → Steps p.tables e below (T.setTop g) t := by
  obtain ⟨cl, A, S, H⟩ := F
  subst hv
  exact X.baloadBooleans hx (by rw [eT]; exact A.1) (State.isArrayOf_alike hZ.alike A.2.1) A.2.2 (by rw [S]; exact own_in hj hi) (by rw [own_idx hj]; exact H i hi) hg hs hd
theorem own_iast (X : Stand p l e R s m args below meth c T locs cells slots) (hx : p.tables.exec = Jvm.exec) (hZ : Z.Warmed39 s.vm) (eT : T.heap = h) (F : own_Ar Z h a .int n f) {j x : Int32} {i : Nat} (hj : j.toInt = i) (hi : i < n)
    {g : JFrame} (hg : g.method = m) {rest : List Value} (hs : g.stack = .int x :: .int j :: .ref a :: rest) (hd : decode c.code g.pc = .ok (.iastore, 1)) :
    ∃ T' h', Stand p l e R s m args below meth c T' (locs ++ [⟨a, i⟩]) cells slots ∧ T'.heap = h' ∧ Wr h h' a i (.int x) ∧ ∀ t, Steps p.tables e below (T'.setTop { g with pc := g.pc + 1, stack := rest }) t → Steps p.tables e below (T.setTop g) t := by
  obtain ⟨cl, A, S, H⟩ := F
  have r := stI X hx hZ eT A (j := j) (by rw [S]; exact own_in hj hi) hg hs hd
  rw [own_idx hj] at r
  exact r
theorem own_last (X : Stand p l e R s m args below meth c T locs cells slots) (hx : p.tables.exec = Jvm.exec) (hZ : Z.Warmed39 s.vm) (eT : T.heap = h) (F : own_Ar Z h a .long n f) {j : Int32} {x : Int64} {i : Nat} (hj : j.toInt = i) (hi : i < n)
    {g : JFrame} (hg : g.method = m) {rest : List Value} (hs : g.stack = .long x :: .int j :: .ref a :: rest) (hd : decode c.code g.pc = .ok (.lastore, 1)) :
    ∃ T' h', Stand p l e R s m args below meth c T' (locs ++ [⟨a, i⟩]) cells slots ∧ T'.heap = h' ∧ Wr h h' a i (.long x) ∧ ∀ t, Steps p.tables e below (T'.setTop { g with pc := g.pc + 1, stack := rest }) t → Steps p.tables e below (T.setTop g) t := by
  obtain ⟨cl, A, S, H⟩ := F
  have r := stJ X hx hZ eT A (j := j) (by rw [S]; exact own_in hj hi) hg hs hd
  rw [own_idx hj] at r
  exact r
theorem own_bast (X : Stand p l e R s m args below meth c T locs cells slots) (hx : p.tables.exec = Jvm.exec) (hZ : Z.Warmed39 s.vm) (eT : T.heap = h) (F : own_Ar Z h a .byte n f) {j x : Int32} {i : Nat} (hj : j.toInt = i) (hi : i < n)
    {g : JFrame} (hg : g.method = m) {rest : List Value} (hs : g.stack = .int x :: .int j :: .ref a :: rest) (hd : decode c.code g.pc = .ok (.bastore, 1)) :
    ∃ T' h', Stand p l e R s m args below meth c T' (locs ++ [⟨a, i⟩]) cells slots ∧ T'.heap = h' ∧ Wr h h' a i (.int (nar .byte x)) ∧ ∀ t, Steps p.tables e below (T'.setTop { g with pc := g.pc + 1, stack := rest }) t → Steps p.tables e below (T.setTop g) t := by
  obtain ⟨cl, A, S, H⟩ := F
  have r := stB X hx hZ eT A (j := j) (x := x) (by rw [S]; exact own_in hj hi) hg hs hd
  rw [own_idx hj] at r
  exact r
theorem own_zast (X : Stand p l e R s m args below meth c T locs cells slots) (hx : p.tables.exec = Jvm.exec) (hZ : Z.Warmed39 s.vm) (eT : T.heap = h) (F : own_Ar Z h a .boolean n f) {j x : Int32} {i : Nat} (hj : j.toInt = i) (hi : i < n)
    {g : JFrame} (hg : g.method = m) {rest : List Value} (hs : g.stack = .int x :: .int j :: .ref a :: rest) (hd : decode c.code g.pc = .ok (.bastore, 1)) :
    ∃ T' h', Stand p l e R s m args below meth c T' (locs ++ [⟨a, i⟩]) cells slots ∧ T'.heap = h' ∧ Wr h h' a i (.int (nar .boolean x)) ∧ ∀ t, Steps p.tables e below (T'.setTop { g with pc := g.pc + 1, stack := rest }) t → Steps p.tables e below (T.setTop g) t := by
  obtain ⟨cl, A, S, H⟩ := F
  have r := stZ X hx hZ eT A (j := j) (x := x) (by rw [S]; exact own_in hj hi) hg hs hd
  rw [own_idx hj] at r
  exact r
end Arrays
end Jvm.RoadKit
namespace Jvm.RoadKit
open Sem ClassFile Op Lib Jvm.Stand Jvm.Free Jvm.LawKit
section ArraysX
variable {p : Program} {l : Launch} {e : Env} {R : Room} {s : State} {m : MethodId} {args : Array Value} {below : List Frame} {meth : Method} {c : Code} {T : State} {locs : List Loc} {cells slots : Nat} {Z : State} {a0 : Array Value} {h h' : Heap} {a b : Addr} {ty : FieldType} {n : Nat} {f : Nat → Value}
/-- an int array of n places of which nothing else is said -/
def own_AI (Z : State) (h : Heap) (a : Addr) (n : Nat) : Prop := ∃ g : Nat → Int32, own_Ar Z h a .int n (fun i => .int (g i))
theorem own_AI.lt (F : own_AI Z h a n) : a < h.size := by obtain ⟨g, F⟩ := F; exact F.lt
theorem own_AI.ext (F : own_AI Z h a n) (E : Ext h h') : own_AI Z h' a n := by obtain ⟨g, F⟩ := F; exact ⟨g, F.ext E⟩
theorem own_AI.keep {ws : List Addr} (F : own_AI Z h a n) (K : Keep h h' ws) (q : a ∉ ws) : own_AI Z h' a n := by obtain ⟨g, F⟩ := F; exact ⟨g, F.keep K q⟩
theorem own_AI.other {sl : Nat} {v : Value} (F : own_AI Z h b n) (W : Wr h h' a sl v) (q : b ≠ a) : own_AI Z h' b n := by obtain ⟨g, F⟩ := F; exact ⟨g, F.other W q⟩
theorem own_AI.set {i : Nat} {v : Int32} (F : own_AI Z h a n) (W : Wr h h' a i (.int v)) : own_AI Z h' a n := by
  obtain ⟨g, F⟩ := F
  exact ⟨fun j => if j = i then v else g j, (F.set W).congr fun j _ => (apply_ite Value.int _ _ _).symm⟩
theorem own_AI.new {k : ClassId} {z : Int32} (A : Arr Z h a (newA k .int z) .int) : own_AI Z h a z.toNatClampNeg := ⟨fun _ => 0, own_Ar.new A⟩
end ArraysX
end Jvm.RoadKit
namespace Jvm.RoadKit
open Sem ClassFile Op Lib Jvm.Stand Jvm.Free Jvm.LawKit
section Copy
variable {p : Program} {l : Launch} {e : Env} {R : Room} {s : State} {m : MethodId} {args : Array Value} {below : List Frame} {meth : Method} {c : Code} {T : State} {locs : List Loc} {cells slots : Nat} {Z : State} {a0 : Array Value} {h h' : Heap}
/-- System.arraycopy of one long, from place 0 to place 0 -/
theorem own_acp1 (X : Stand p l e R s m args below meth c T locs cells slots) (hx : p.tables.exec = Jvm.exec) (hZ : Z.Warmed39 s.vm) (eT : T.heap = h) {own : String} {index : Nat} {a b : Addr} {na nb : Nat} {KA KB : Nat → Int64}
    (FA : own_Ar Z h a .long na (fun uu => .long (KA uu))) (FB : own_Ar Z h b .long nb (fun uu => .long (KB uu))) (h1 : 0 < na) (h2 : 0 < nb) (hown : s.vm.findClass own = some m.cls)
    (wl : (Cond.methodLink own index acN).before a0 Z = true) (wn : (Cond.native acN).before a0 Z = true) (ws : (Cond.static acN).before a0 Z = true) (wi : (Cond.initialized "java/lang/System").before a0 Z = true)
    {g : JFrame} (hg : g.method = m) (hsize : g.locals.size = c.maxLocals) {rest : List Value} (hs : g.stack = .int (1 : Int32) :: .int (0 : Int32) :: .ref b :: .int (0 : Int32) :: .ref a :: rest) (hd : decode c.code g.pc = .ok (.invokestatic index, 3))
    (hfr : 1 ≤ R.frames) (hlo : 2 * g.monitorRoom + (rest.map fun v => v.category).sum + (nativeFrameWords "java/lang/System" "arraycopy" 5 + 11) ≤ R.locals) :
    ∃ T' h', Stand p l e R s m args below meth c T' (locs ++ [⟨b, 0⟩]) cells slots ∧ T'.heap = h' ∧ Wr h h' b 0 (.long (KA 0)) ∧ ∀ t, Steps p.tables e below (T'.setTop { g with pc := g.pc + 3, stack := rest }) t → Steps p.tables e below (T.setTop g) t := by
  obtain ⟨cA, A, SA, HA⟩ := FA
  obtain ⟨cB, B, SB, HB⟩ := FB
  obtain ⟨ob1, k1, hk1, c1, kd1⟩ := State.isArrayOf_alike hZ.alike A.2.1
  obtain ⟨ob2, k2, hk2, c2, kd2⟩ := State.isArrayOf_alike hZ.alike B.2.1
  have v0 : cA.slots[0]? = some (.long (KA 0)) := HA 0 h1
  have g0 : cA.slots.getD 0 .null = .long (KA 0) := by rw [Array.getD_eq_getD_getElem?, v0]; rfl
  have z0 : (0 : Int32).toNatClampNeg = 0 := rfl
  have z1 : (1 : Int32).toNatClampNeg = 1 := rfl
  obtain ⟨vm₁, -, X', st⟩ := X.arraycopyK hx hown (mvT hZ wl) (mvT hZ wn) (mvT hZ ws) (mvT hZ wi) (by rw [eT]; exact A.1) (by rw [eT]; exact B.1) ob1 ob2 A.2.2 B.2.2 hk1 hk2 kd1 kd2 (by decide) (by decide) (by decide) (by decide)
    (by rw [SA]; show ¬ ((0 : Int) + 1 > (na : Int)); omega) (by rw [SB]; show ¬ ((0 : Int) + 1 > (nb : Int)); omega)
    (fun vm₁ _ i hi => by
      have : i = 0 := by rw [z1] at hi; omega
      subst this
      rw [z0, Nat.add_zero, g0]
      exact ⟨rfl, trivial⟩) hg hsize hs hd hfr hlo
  have ec : copied cA cB 0 0 1 = cB.setSlot 0 (.long (KA 0)) := by
    show cB.storeRun 0 (cA.stretch 0 1) = _
    rw [show cA.stretch 0 1 = [cA.slots.getD 0 .null] from rfl, g0]
    rfl
  rw [ec] at X' st
  refine ⟨_, _, X', rfl, ⟨cB, B.1, B.plain, by rw [SB]; exact h2, by rw [← eT]; rfl⟩, st⟩
end Copy
end Jvm.RoadKit
namespace Jvm.Pilot.@@N@@
open Jvm Jvm.ClassFile Sem Op Lib Jvm.Free Jvm.Stand Jvm.LawKit Jvm.RoadKit Bundle Jvm.Pilot.@@N@@.Jvm.D
theorem own_at {a0 : Array Value} {Z : State} (hw : ∀ d ∈ tables_1, d.before a0 Z = true) (i : Nat) {d : Jvm.Cond} (h : tables_1[i]? = some d) : d.before a0 Z = true := hw _ (List.mem_of_getElem? h)
/-! plain facts on ints and longs -/
theorem own_char16 (u : UInt16) : (u.toUInt32.toInt32).toInt = u.toNat := by
  have h := u.toNat_lt
  show BitVec.toInt u.toUInt32.toBitVec = _
  rw [BitVec.toInt_eq_toNat_of_lt (by simp; omega)]
  simp
theorem own_char (y : Int32) : 0 ≤ (y.toUInt32.toUInt16.toUInt32.toInt32).toInt ∧ (y.toUInt32.toUInt16.toUInt32.toInt32).toInt < 65536 := by
  rw [own_char16]
  have h := y.toUInt32.toUInt16.toNat_lt
  omega
theorem own_fin32 {P : Int32 → Prop} (n : Nat) (h : ∀ k : Fin n, P (Int32.ofNat k)) (c : Int32) (h0 : 0 ≤ c.toInt) (h1 : c.toInt < n) : P c := by
  have e : c = Int32.ofNat c.toInt.toNat := by
    apply Int32.toInt_inj.mp
    have hb := c.toInt_lt
    rw [Int32.toInt_ofNat_of_lt (by omega)]
    omega
  rw [e]
  exact h ⟨c.toInt.toNat, by omega⟩
theorem own_lt32 (x y : Int32) : (x < y) ↔ x.toInt < y.toInt := Int32.lt_iff_toInt_lt
theorem own_eq32 (x y : Int32) : (x = y) ↔ x.toInt = y.toInt := Int32.toInt_inj.symm
theorem own_lt64 (x y : Int64) : (x < y) ↔ x.toInt < y.toInt := Int64.lt_iff_toInt_lt
theorem own_eq64 (x y : Int64) : (x = y) ↔ x.toInt = y.toInt := Int64.toInt_inj.symm

def own_W (Z : State) (h : Heap) (n0 : Nat) (w kA sA dA pA : Addr) (sv : Value) (K Sz : Nat → Int64) (D : Nat → Int32) (cnt : Nat) (fs : Int64) (mx am ix la : Int32) : Prop :=
  Exa Z h w "com/example/strati/strati/sim/WriteBuffer" ∧ Fld Z h w "com/example/strati/strati/sim/WriteBuffer" "keys" "[J" (.ref kA) ∧ Fld Z h w "com/example/strati/strati/sim/WriteBuffer" "sizes" "[J" (.ref sA) ∧ Fld Z h w "com/example/strati/strati/sim/WriteBuffer" "deletes" "[Z" (.ref dA) ∧ Fld Z h w "com/example/strati/strati/sim/WriteBuffer" "positions" "[I" (.ref pA) ∧ Fld Z h w "com/example/strati/strati/sim/WriteBuffer" "count" "I" (.int (Int32.ofNat cnt)) ∧ Fld Z h w "com/example/strati/strati/sim/WriteBuffer" "firstSize" "J" (.long fs) ∧ Fld Z h w "com/example/strati/strati/sim/WriteBuffer" "mixedSizes" "Z" (.int mx) ∧ Fld Z h w "com/example/strati/strati/sim/WriteBuffer" "anyMarker" "Z" (.int am) ∧ Fld Z h w "com/example/strati/strati/sim/WriteBuffer" "slots" "[I" sv ∧ Fld Z h w "com/example/strati/strati/sim/WriteBuffer" "indexed" "I" (.int ix) ∧ Fld Z h w "com/example/strati/strati/sim/WriteBuffer" "lastAdded" "I" (.int la) ∧
  own_Ar Z h kA .long 16 (fun uu => .long (K uu)) ∧ own_Ar Z h sA .long 16 (fun uu => .long (Sz uu)) ∧ own_Ar Z h dA .boolean 16 (fun uu => .int (D uu)) ∧ own_Ar Z h pA .int 0 (fun uu => .int ((fun _ => (0 : Int32)) uu)) ∧
  w ≠ kA ∧ w ≠ sA ∧ w ≠ dA ∧ w ≠ pA ∧ kA ≠ sA ∧ kA ≠ dA ∧ kA ≠ pA ∧ sA ≠ dA ∧ sA ≠ pA ∧ dA ≠ pA ∧ n0 ≤ w ∧ n0 ≤ kA ∧ n0 ≤ sA ∧ n0 ≤ dA ∧ (mx = 0 ∨ mx = 1) ∧ (am = 0 ∨ am = 1)
theorem own_W.exa {Z : State} {h : Heap} {n0 : Nat} {w kA sA dA pA : Addr} {sv : Value} {K Sz : Nat → Int64} {D : Nat → Int32} {cnt : Nat} {fs : Int64} {mx am ix la : Int32} (B : own_W Z h n0 w kA sA dA pA sv K Sz D cnt fs mx am ix la) : Exa Z h w "com/example/strati/strati/sim/WriteBuffer" := B.1
def own_I (Z : State) (h : Heap) (n0 : Nat) (w kA sA dA pA iA : Addr) (S : Nat → Int32) : Prop :=
  own_Ar Z h iA .int 16 (fun uu => .int (S uu)) ∧ w ≠ iA ∧ kA ≠ iA ∧ sA ≠ iA ∧ dA ≠ iA ∧ pA ≠ iA ∧ n0 ≤ iA
theorem own_toI {n : Nat} (h : n < 2147483648) : (Int32.ofNat n).toInt = n := Int32.toInt_ofNat_of_lt h
theorem own_cnt (n : Nat) : Int32.ofNat n + (1 : Int32) = Int32.ofNat (n + 1) := Int32.ofNat_succ n
theorem own_inc {i : Int32} {k : Nat} (h : i.toInt = (k : Nat)) (hk : k < 2147483647) : (i + (1 : Int32)).toInt = ((k + 1 : Nat) : Int) := by
  have k1 : (1 : Int32).toInt = 1 := rfl
  rw [Jvm.Kit.i32_add (by rw [k1]; omega) (by rw [k1]; omega), k1, h]; omega
theorem own_self {i : Int32} {k : Nat} (h : i.toInt = (k : Nat)) : Int32.ofNat k = i := by
  have b := i.toInt_lt
  rw [own_eq32, own_toI (by omega), h]
def own_q (x : Int32) : Nat := x.toInt.toNat - 1
def own_OK (S : Nat → Int32) : Prop := ∀ i, i < 16 → S i = 0 ∨ (1 ≤ (S i).toInt ∧ (S i).toInt ≤ 16)
theorem own_qe {S : Nat → Int32} (hS : own_OK S) {a : Nat} (ha : a < 16) (h : ¬ S a = (0 : Int32)) : (S a - (1 : Int32)).toInt = (own_q (S a) : Nat) ∧ own_q (S a) < 16 := by
  have k1 : (1 : Int32).toInt = 1 := rfl
  have b := (hS a ha).resolve_left h
  unfold own_q
  rw [Jvm.Kit.i32_sub (by rw [k1]; omega) (by rw [k1]; omega), k1]
  omega
theorem own_nxt {iv : Int32} {a : Nat} (h : iv.toInt = (a : Nat)) (ha : a < 16) : ((iv + (1 : Int32)) &&& (15 : Int32)).toInt = (((a + 1) % 16 : Nat) : Int) := by
  have e := own_inc h (by omega)
  have m : ((iv + (1 : Int32)) &&& (15 : Int32)).toInt = (iv + (1 : Int32)).toInt % 2 ^ 4 := Jvm.Kit.i32_mask _ _ (k := 4) (by decide) (by decide)
  rw [m, e]
  omega

theorem d4_0 : decode jdk_30_method_1_code 0 = .ok (.aload_n 0, 1) := by decide +kernel
theorem d4_1 : decode jdk_30_method_1_code 1 = .ok (.invokespecial 1, 3) := by decide +kernel
theorem d4_4 : decode jdk_30_method_1_code 4 = .ok (.return_, 1) := by decide +kernel
theorem pn_4 : plainName "java/lang/Record" = true := by first | (simp [plainName, overriddenIn]; done) | decide +kernel
theorem pd_4 : parseMethodDescriptor "()V" = some ⟨[], none⟩ := by decide +kernel
theorem ef_4 (m : MethodId) (x0 : Addr) : entryFrame m #[(.ref x0)] 1 = mkF m 0 #[.val (.ref x0)] [] := by first | (simp [entryFrame, mkF, argsToLocals, Value.category]; done) | rfl
def own_F4 (Z : State) (x0 : Addr)  (h0 : Heap) (v : Option Value) (h : Heap) (L : List Loc) : Prop := v = none ∧ L = [] ∧ h = h0
set_option maxRecDepth 65536 in
set_option maxHeartbeats 40000000 in
theorem own_m4 (l : Launch) (Z : State) (a0 : Array Value) (hw : ∀ d ∈ tables_1, d.before a0 Z = true) (ws : List Jvm.Cond) (x0 : Addr)  (h0 : Heap)   :
    MetFree l (⟨"java/lang/Record", "<init>", "()V"⟩ : MethodName) (head1 (Jvm.Cond.code (⟨"java/lang/Record", "<init>", "()V"⟩ : MethodName) jdk_30_method_1_code 1 none :: ws) ({ frames := 1, cells := 0, slots := 0, locals := 12 } : Room)) (fun a U => a = #[(.ref x0)] ∧ Z.Warmed39 U.vm ∧ U.heap = h0) (fun _ _ _ _ _ => True) (fun _ U o U' => ∃ v L, o = .returned v ∧ own_F4 Z x0 h0 v U'.heap L ∧ FrameEnd U o U' L ({ frames := 1, cells := 0, slots := 0, locals := 12 } : Room).cells ({ frames := 1, cells := 0, slots := 0, locals := 12 } : Room).slots) := by
  refine MetFree.of_bodySF (plainFor_of_name pn_4) hisR ?_
  intro p e s m args below meth c s₁ Bd hml0 hP hK
  obtain ⟨rfl, hZ, hh⟩ := hP
  have hx := Bd.exec
  have hby := Bd.bytes
  have hml : c.maxLocals = 1 := hml0
  have hown : s.vm.findClass "java/lang/Record" = some m.cls := findClass_of_methodNamed Bd.named
  have hnm := (name_of_methodNamed Bd.named Bd.method).1
  have X0 : Stand p l e ({ frames := 1, cells := 0, slots := 0, locals := 12 } : Room) s m #[(.ref x0)] below meth c s₁ [] 0 0 := Stand.of_body Bd
  have e0 : s₁.heap = h0 := by rw [← hh, Bd.state]; rfl
  have hgo : own_Goes p e below s (own_F4 Z x0 h0) 0 0 (s₁.setTop (mkF m 0 #[.val (.ref x0)] [])) := by
    refine own_Goes.step (fun tq kq => XS.aloadN X0.here hx rfl (hb hby d4_0) rfl rfl kq) ?_
    show own_Goes _ _ _ _ _ _ _ (s₁.setTop (mkF m 1 #[.val (.ref x0)] [(.ref x0)]))
    obtain ⟨T1, X1, e1, st1⟩ := initO X0 hx hZ hown (own_at hw 33 rfl) (own_at hw 7 rfl) (own_at hw 8 rfl) e0 (g := (mkF m 1 #[.val (.ref x0)] [(.ref x0)])) rfl (by rw [hml]; rfl) rfl (hb hby d4_1) (by decide) (W := 0) (by show 2 * 0 + _ ≤ _; exact Nat.le_of_eq rfl) (by decide)
    refine own_Goes.step st1 ?_
    show own_Goes _ _ _ _ _ _ _ (T1.setTop (mkF m 4 #[.val (.ref x0)] []))
    exact own_endV X1 hx Bd.notSynchronized Bd.returns (hb hby d4_4) ⟨rfl, rfl, e1⟩ (by decide) (by decide)
  obtain ⟨t2, o2, q1, q2, q3, q4⟩ := hgo
  exact ⟨t2, o2, castTop (ef_4 m x0) q1, q2, q3, q4⟩
theorem d3_0 : decode prog_35_method_1_code 0 = .ok (.aload_n 0, 1) := by decide +kernel
theorem d3_1 : decode prog_35_method_1_code 1 = .ok (.invokespecial 1, 3) := by decide +kernel
theorem d3_4 : decode prog_35_method_1_code 4 = .ok (.aload_n 0, 1) := by decide +kernel
theorem d3_5 : decode prog_35_method_1_code 5 = .ok (.lload_n 1, 1) := by decide +kernel
theorem d3_6 : decode prog_35_method_1_code 6 = .ok (.putfield 7, 3) := by decide +kernel
theorem d3_9 : decode prog_35_method_1_code 9 = .ok (.aload_n 0, 1) := by decide +kernel
theorem d3_10 : decode prog_35_method_1_code 10 = .ok (.iload_n 3, 1) := by decide +kernel
theorem d3_11 : decode prog_35_method_1_code 11 = .ok (.putfield 13, 3) := by decide +kernel
theorem d3_14 : decode prog_35_method_1_code 14 = .ok (.return_, 1) := by decide +kernel
theorem pn_3 : plainName "com/example/strati/strati/sim/Entry" = true := by first | (simp [plainName, overriddenIn]; done) | decide +kernel
theorem pd_3 : parseMethodDescriptor "(JZ)V" = some ⟨[.long, .boolean], none⟩ := by decide +kernel
theorem ef_3 (m : MethodId) (x0 : Addr) (x1 : Int64) (x2 : Int32) : entryFrame m #[(.ref x0), (.long x1), (.int x2)] 4 = mkF m 0 #[.val (.ref x0), .val (.long x1), .second, .val (.int x2)] [] := by first | (simp [entryFrame, mkF, argsToLocals, Value.category]; done) | rfl
def own_f3_size (x1 : Int64) (x2 : Int32) : Int64 := x1
def own_f3_delete (x1 : Int64) (x2 : Int32) : Int32 := x2
def own_F3 (Z : State) (x0 : Addr) (x1 : Int64) (x2 : Int32)  (n0 : Nat) (h0 : Heap) (v : Option Value) (h : Heap) (L : List Loc) : Prop := v = none ∧ Fr n0 L ∧ Keep h0 h [x0] ∧ Exa Z h x0 "com/example/strati/strati/sim/Entry" ∧ Fld Z h x0 "com/example/strati/strati/sim/Entry" "size" "J" (.long (own_f3_size x1 x2)) ∧ Fld Z h x0 "com/example/strati/strati/sim/Entry" "delete" "Z" (.int (own_f3_delete x1 x2))
set_option maxRecDepth 65536 in
set_option maxHeartbeats 40000000 in
theorem own_m3 (l : Launch) (Z : State) (a0 : Array Value) (hw : ∀ d ∈ tables_1, d.before a0 Z = true) (ws : List Jvm.Cond) (x0 : Addr) (x1 : Int64) (x2 : Int32)  (n0 : Nat) (h0 : Heap) (E0 : Exa Z h0 x0 "com/example/strati/strati/sim/Entry") (g0 : n0 ≤ x0) (P0 : Fld Z h0 x0 "com/example/strati/strati/sim/Entry" "size" "J" (.long (0 : Int64))) (P1 : Fld Z h0 x0 "com/example/strati/strati/sim/Entry" "delete" "Z" (.int (0 : Int32))) (hd : x2 = 0 ∨ x2 = 1) :
    MetFree l (⟨"com/example/strati/strati/sim/Entry", "<init>", "(JZ)V"⟩ : MethodName) (head1 (Jvm.Cond.code (⟨"com/example/strati/strati/sim/Entry", "<init>", "(JZ)V"⟩ : MethodName) prog_35_method_1_code 4 none :: ws) ({ frames := 2, cells := 0, slots := 0, locals := 24 } : Room)) (fun a U => a = #[(.ref x0), (.long x1), (.int x2)] ∧ Z.Warmed39 U.vm ∧ U.heap = h0) (fun _ _ _ _ _ => True) (fun _ U o U' => ∃ v L, o = .returned v ∧ own_F3 Z x0 x1 x2 n0 h0 v U'.heap L ∧ FrameEnd U o U' L ({ frames := 2, cells := 0, slots := 0, locals := 24 } : Room).cells ({ frames := 2, cells := 0, slots := 0, locals := 24 } : Room).slots) := by
  refine MetFree.of_bodySF (plainFor_of_name pn_3) hisR ?_
  intro p e s m args below meth c s₁ Bd hml0 hP hK
  obtain ⟨rfl, hZ, hh⟩ := hP
  have hx := Bd.exec
  have hby := Bd.bytes
  have hml : c.maxLocals = 4 := hml0
  have hown : s.vm.findClass "com/example/strati/strati/sim/Entry" = some m.cls := findClass_of_methodNamed Bd.named
  have hnm := (name_of_methodNamed Bd.named Bd.method).1
  have X0 : Stand p l e ({ frames := 2, cells := 0, slots := 0, locals := 24 } : Room) s m #[(.ref x0), (.long x1), (.int x2)] below meth c s₁ [] 0 0 := Stand.of_body Bd
  have e0 : s₁.heap = h0 := by rw [← hh, Bd.state]; rfl
  have N0 := Fr.nil n0
  have K0 : Keep h0 h0 [x0] := Keep.refl h0 [x0]
  have Z0 : n0 ≤ h0.size := Nat.le_trans g0 (Nat.le_of_lt E0.lt)
  have hgo : own_Goes p e below s (own_F3 Z x0 x1 x2 n0 h0) 0 0 (s₁.setTop (mkF m 0 #[.val (.ref x0), .val (.long x1), .second, .val (.int x2)] [])) := by
    refine own_Goes.step (fun tq kq => XS.aloadN X0.here hx rfl (hb hby d3_0) rfl rfl kq) ?_
    show own_Goes _ _ _ _ _ _ _ (s₁.setTop (mkF m 1 #[.val (.ref x0), .val (.long x1), .second, .val (.int x2)] [(.ref x0)]))
    obtain ⟨w1, T1, L1, q1, Y1, st1⟩ := own_spec X0 hx hZ e0 rfl hown (own_at hw 28 rfl) (own_at hw 29 rfl) (own_at hw 31 rfl) (own_at hw 32 rfl) (by decide) (own_m4 l Z a0 hw [] x0  h0  ) (by decide) (W := 0) (by decide) (by decide) (by decide) (g := (mkF m 1 #[.val (.ref x0), .val (.long x1), .second, .val (.int x2)] [(.ref x0)])) rfl (by rw [hml]; rfl) (a := x0) (argsL := []) (rest := []) (lenOf pd_4 rfl) rfl (by show 2 * 0 + _ ≤ _; exact Nat.le_of_eq rfl) (hb hby d3_1)
    obtain ⟨e1, X1⟩ := own_clean q1 Y1 rfl rfl
    obtain ⟨rfl, -, -⟩ := q1
    refine own_Goes.step st1 ?_
    show own_Goes _ _ _ _ _ _ _ (T1.setTop (mkF m 4 #[.val (.ref x0), .val (.long x1), .second, .val (.int x2)] []))
    refine own_Goes.step (fun tq kq => XS.aloadN X1.here hx rfl (hb hby d3_4) rfl rfl kq) ?_
    show own_Goes _ _ _ _ _ _ _ (T1.setTop (mkF m 5 #[.val (.ref x0), .val (.long x1), .second, .val (.int x2)] [(.ref x0)]))
    refine own_Goes.step (fun tq kq => XT.lloadN X1.here hx rfl (hb hby d3_5) rfl kq) ?_
    show own_Goes _ _ _ _ _ _ _ (T1.setTop (mkF m 6 #[.val (.ref x0), .val (.long x1), .second, .val (.int x2)] [(.long x1), (.ref x0)]))
    obtain ⟨T2, h2, X2, e2, W2, st2⟩ := putF X1 hx hZ hown (host := "") (Or.inl (own_at hw 34 rfl)) Via.refl e1 (v := (.long x1)) P0 E0 (Or.inr ⟨(own_at hw 35 rfl), rfl, hnm⟩) (own_at hw 23 rfl) (ty := .long) (by decide) rfl rfl (g := (mkF m 6 #[.val (.ref x0), .val (.long x1), .second, .val (.int x2)] [(.long x1), (.ref x0)])) rfl rfl (hb hby d3_6)
    refine own_Goes.step st2 ?_
    have f3 := E0.wr W2
    have f4 := P0.same W2
    have f5 := P1.other W2 (Or.inr (slot_ne (Or.inr (own_at hw 37 rfl)) (Or.inr (own_at hw 35 rfl)) (by decide) (t := .boolean) (t' := .long) (by decide) (by decide)))
    have K6 := K0.wr W2 (Or.inl (List.mem_of_getElem? (i := 0) rfl))
    have N7 := Fr.snoc X2 N0 g0
    have Z8 : n0 ≤ h2.size := Nat.le_trans Z0 (Keep.of_wr W2).1
    show own_Goes _ _ _ _ _ _ _ (T2.setTop (mkF m 9 #[.val (.ref x0), .val (.long x1), .second, .val (.int x2)] []))
    refine own_Goes.step (fun tq kq => XS.aloadN X2.here hx rfl (hb hby d3_9) rfl rfl kq) ?_
    show own_Goes _ _ _ _ _ _ _ (T2.setTop (mkF m 10 #[.val (.ref x0), .val (.long x1), .second, .val (.int x2)] [(.ref x0)]))
    refine own_Goes.step (fun tq kq => XS.iloadN X2.here hx rfl (hb hby d3_10) rfl kq) ?_
    show own_Goes _ _ _ _ _ _ _ (T2.setTop (mkF m 11 #[.val (.ref x0), .val (.long x1), .second, .val (.int x2)] [(.int x2), (.ref x0)]))
    obtain ⟨T9, h9, X9, e9, W9, st9⟩ := putF X2 hx hZ hown (host := "") (Or.inl (own_at hw 36 rfl)) Via.refl e2 (v := (.int x2)) f5 f3 (Or.inr ⟨(own_at hw 37 rfl), rfl, hnm⟩) (own_at hw 23 rfl) (ty := .boolean) (by decide) (by rcases hd with rfl | rfl <;> rfl) (by rcases hd with rfl | rfl <;> rfl) (g := (mkF m 11 #[.val (.ref x0), .val (.long x1), .second, .val (.int x2)] [(.int x2), (.ref x0)])) rfl rfl (hb hby d3_11)
    refine own_Goes.step st9 ?_
    have f10 := f3.wr W9
    have f11 := f4.other W9 (Or.inr (slot_ne (Or.inr (own_at hw 35 rfl)) (Or.inr (own_at hw 37 rfl)) (by decide) (t := .long) (t' := .boolean) (by decide) (by decide)))
    have f12 := f5.same W9
    have K13 := K6.wr W9 (Or.inl (List.mem_of_getElem? (i := 0) rfl))
    have N14 := Fr.snoc X9 N7 g0
    have Z15 : n0 ≤ h9.size := Nat.le_trans Z8 (Keep.of_wr W9).1
    show own_Goes _ _ _ _ _ _ _ (T9.setTop (mkF m 14 #[.val (.ref x0), .val (.long x1), .second, .val (.int x2)] []))
    refine own_endV X9 hx Bd.notSynchronized Bd.returns (hb hby d3_14) ?_ (by decide) (by decide)
    show own_F3 Z x0 x1 x2 n0 h0 _ T9.heap _
    rw [e9]
    exact ⟨rfl, N14, K13, f10, f11, f12⟩
  obtain ⟨t2, o2, q1, q2, q3, q4⟩ := hgo
  exact ⟨t2, o2, castTop (ef_3 m x0 x1 x2) q1, q2, q3, q4⟩
theorem d6_0 : decode prog_35_method_6_code 0 = .ok (.aload_n 0, 1) := by decide +kernel
theorem d6_1 : decode prog_35_method_6_code 1 = .ok (.getfield 7, 3) := by decide +kernel
theorem d6_4 : decode prog_35_method_6_code 4 = .ok (.lreturn, 1) := by decide +kernel
theorem pn_6 : plainName "com/example/strati/strati/sim/Entry" = true := by first | (simp [plainName, overriddenIn]; done) | decide +kernel
theorem pd_6 : parseMethodDescriptor "()J" = some ⟨[], (some .long)⟩ := by decide +kernel
theorem ef_6 (m : MethodId) (x0 : Addr) : entryFrame m #[(.ref x0)] 1 = mkF m 0 #[.val (.ref x0)] [] := by first | (simp [entryFrame, mkF, argsToLocals, Value.category]; done) | rfl
def own_f6 (z : Int64) : Int64 := z
def own_F6 (Z : State) (x0 : Addr) (z : Int64) (h0 : Heap) (v : Option Value) (h : Heap) (L : List Loc) : Prop := v = some (.long (own_f6 z)) ∧ L = [] ∧ h = h0
set_option maxRecDepth 65536 in
set_option maxHeartbeats 40000000 in
theorem own_m6 (l : Launch) (Z : State) (a0 : Array Value) (hw : ∀ d ∈ tables_1, d.before a0 Z = true) (ws : List Jvm.Cond) (x0 : Addr) (z : Int64) (h0 : Heap) (P0 : Fld Z h0 x0 "com/example/strati/strati/sim/Entry" "size" "J" (.long z))  :
    MetFree l (⟨"com/example/strati/strati/sim/Entry", "size", "()J"⟩ : MethodName) (head1 (Jvm.Cond.code (⟨"com/example/strati/strati/sim/Entry", "size", "()J"⟩ : MethodName) prog_35_method_6_code 1 (some .long) :: ws) ({ frames := 0, cells := 0, slots := 0, locals := 0 } : Room)) (fun a U => a = #[(.ref x0)] ∧ Z.Warmed39 U.vm ∧ U.heap = h0) (fun _ _ _ _ _ => True) (fun _ U o U' => ∃ v L, o = .returned v ∧ own_F6 Z x0 z h0 v U'.heap L ∧ FrameEnd U o U' L ({ frames := 0, cells := 0, slots := 0, locals := 0 } : Room).cells ({ frames := 0, cells := 0, slots := 0, locals := 0 } : Room).slots) := by
  refine MetFree.of_bodySF (plainFor_of_name pn_6) hisR ?_
  intro p e s m args below meth c s₁ Bd hml0 hP hK
  obtain ⟨rfl, hZ, hh⟩ := hP
  have hx := Bd.exec
  have hby := Bd.bytes
  have hml : c.maxLocals = 1 := hml0
  have hown : s.vm.findClass "com/example/strati/strati/sim/Entry" = some m.cls := findClass_of_methodNamed Bd.named
  have hnm := (name_of_methodNamed Bd.named Bd.method).1
  have X0 : Stand p l e ({ frames := 0, cells := 0, slots := 0, locals := 0 } : Room) s m #[(.ref x0)] below meth c s₁ [] 0 0 := Stand.of_body Bd
  have e0 : s₁.heap = h0 := by rw [← hh, Bd.state]; rfl
  have hgo : own_Goes p e below s (own_F6 Z x0 z h0) 0 0 (s₁.setTop (mkF m 0 #[.val (.ref x0)] [])) := by
    refine own_Goes.step (fun tq kq => XS.aloadN X0.here hx rfl (hb hby d6_0) rfl rfl kq) ?_
    show own_Goes _ _ _ _ _ _ _ (s₁.setTop (mkF m 1 #[.val (.ref x0)] [(.ref x0)]))
    obtain ⟨T1, X1, e1, st1⟩ := getF X0 hx hZ hown (host := "") (Or.inl (own_at hw 34 rfl)) Via.refl e0 P0 (g := (mkF m 1 #[.val (.ref x0)] [(.ref x0)])) rfl rfl (hb hby d6_1)
    refine own_Goes.step st1 ?_
    show own_Goes _ _ _ _ _ _ _ (T1.setTop (mkF m 4 #[.val (.ref x0)] [(.long z)]))
    exact own_endJ X1 hx Bd.notSynchronized Bd.returns (hb hby d6_4) ⟨(congrArg (fun z => some (Value.long z)) (show z = own_f6 z from by simp only [own_f6])), rfl, e1⟩ (by decide) (by decide)
  obtain ⟨t2, o2, q1, q2, q3, q4⟩ := hgo
  exact ⟨t2, o2, castTop (ef_6 m x0) q1, q2, q3, q4⟩
theorem d7_0 : decode prog_35_method_7_code 0 = .ok (.aload_n 0, 1) := by decide +kernel
theorem d7_1 : decode prog_35_method_7_code 1 = .ok (.getfield 13, 3) := by decide +kernel
theorem d7_4 : decode prog_35_method_7_code 4 = .ok (.ireturn, 1) := by decide +kernel
theorem pn_7 : plainName "com/example/strati/strati/sim/Entry" = true := by first | (simp [plainName, overriddenIn]; done) | decide +kernel
theorem pd_7 : parseMethodDescriptor "()Z" = some ⟨[], (some .boolean)⟩ := by decide +kernel
theorem ef_7 (m : MethodId) (x0 : Addr) : entryFrame m #[(.ref x0)] 1 = mkF m 0 #[.val (.ref x0)] [] := by first | (simp [entryFrame, mkF, argsToLocals, Value.category]; done) | rfl
def own_f7 (d : Int32) : Int32 := (nar .boolean d)
def own_F7 (Z : State) (x0 : Addr) (d : Int32) (h0 : Heap) (v : Option Value) (h : Heap) (L : List Loc) : Prop := v = some (.int (own_f7 d)) ∧ L = [] ∧ h = h0
set_option maxRecDepth 65536 in
set_option maxHeartbeats 40000000 in
theorem own_m7 (l : Launch) (Z : State) (a0 : Array Value) (hw : ∀ d ∈ tables_1, d.before a0 Z = true) (ws : List Jvm.Cond) (x0 : Addr) (d : Int32) (h0 : Heap) (P0 : Fld Z h0 x0 "com/example/strati/strati/sim/Entry" "delete" "Z" (.int d))  :
    MetFree l (⟨"com/example/strati/strati/sim/Entry", "delete", "()Z"⟩ : MethodName) (head1 (Jvm.Cond.code (⟨"com/example/strati/strati/sim/Entry", "delete", "()Z"⟩ : MethodName) prog_35_method_7_code 1 (some .boolean) :: ws) ({ frames := 0, cells := 0, slots := 0, locals := 0 } : Room)) (fun a U => a = #[(.ref x0)] ∧ Z.Warmed39 U.vm ∧ U.heap = h0) (fun _ _ _ _ _ => True) (fun _ U o U' => ∃ v L, o = .returned v ∧ own_F7 Z x0 d h0 v U'.heap L ∧ FrameEnd U o U' L ({ frames := 0, cells := 0, slots := 0, locals := 0 } : Room).cells ({ frames := 0, cells := 0, slots := 0, locals := 0 } : Room).slots) := by
  refine MetFree.of_bodySF (plainFor_of_name pn_7) hisR ?_
  intro p e s m args below meth c s₁ Bd hml0 hP hK
  obtain ⟨rfl, hZ, hh⟩ := hP
  have hx := Bd.exec
  have hby := Bd.bytes
  have hml : c.maxLocals = 1 := hml0
  have hown : s.vm.findClass "com/example/strati/strati/sim/Entry" = some m.cls := findClass_of_methodNamed Bd.named
  have hnm := (name_of_methodNamed Bd.named Bd.method).1
  have X0 : Stand p l e ({ frames := 0, cells := 0, slots := 0, locals := 0 } : Room) s m #[(.ref x0)] below meth c s₁ [] 0 0 := Stand.of_body Bd
  have e0 : s₁.heap = h0 := by rw [← hh, Bd.state]; rfl
  have hgo : own_Goes p e below s (own_F7 Z x0 d h0) 0 0 (s₁.setTop (mkF m 0 #[.val (.ref x0)] [])) := by
    refine own_Goes.step (fun tq kq => XS.aloadN X0.here hx rfl (hb hby d7_0) rfl rfl kq) ?_
    show own_Goes _ _ _ _ _ _ _ (s₁.setTop (mkF m 1 #[.val (.ref x0)] [(.ref x0)]))
    obtain ⟨T1, X1, e1, st1⟩ := getF X0 hx hZ hown (host := "") (Or.inl (own_at hw 36 rfl)) Via.refl e0 P0 (g := (mkF m 1 #[.val (.ref x0)] [(.ref x0)])) rfl rfl (hb hby d7_1)
    refine own_Goes.step st1 ?_
    show own_Goes _ _ _ _ _ _ _ (T1.setTop (mkF m 4 #[.val (.ref x0)] [(.int d)]))
    exact own_endN X1 hx Bd.notSynchronized (t := .boolean) Bd.returns (by simp) (hb hby d7_4) ⟨(congrArg (fun z => some (Value.int z)) (show (nar .boolean d) = own_f7 d from by simp only [own_f7])), rfl, e1⟩ (by decide) (by decide)
  obtain ⟨t2, o2, q1, q2, q3, q4⟩ := hgo
  exact ⟨t2, o2, castTop (ef_7 m x0) q1, q2, q3, q4⟩
theorem d13_0 : decode prog_54_method_5_code 0 = .ok (.lload_n 0, 1) := by decide +kernel
theorem d13_1 : decode prog_54_method_5_code 1 = .ok (.lload_n 0, 1) := by decide +kernel
theorem d13_2 : decode prog_54_method_5_code 2 = .ok (.bipush 30, 2) := by decide +kernel
theorem d13_4 : decode prog_54_method_5_code 4 = .ok (.lushr, 1) := by decide +kernel
theorem d13_5 : decode prog_54_method_5_code 5 = .ok (.lxor, 1) := by decide +kernel
theorem d13_6 : decode prog_54_method_5_code 6 = .ok (.ldc2_w 29, 3) := by decide +kernel
theorem d13_9 : decode prog_54_method_5_code 9 = .ok (.lmul, 1) := by decide +kernel
theorem d13_10 : decode prog_54_method_5_code 10 = .ok (.lstore_n 0, 1) := by decide +kernel
theorem d13_11 : decode prog_54_method_5_code 11 = .ok (.lload_n 0, 1) := by decide +kernel
theorem d13_12 : decode prog_54_method_5_code 12 = .ok (.lload_n 0, 1) := by decide +kernel
theorem d13_13 : decode prog_54_method_5_code 13 = .ok (.bipush 27, 2) := by decide +kernel
theorem d13_15 : decode prog_54_method_5_code 15 = .ok (.lushr, 1) := by decide +kernel
theorem d13_16 : decode prog_54_method_5_code 16 = .ok (.lxor, 1) := by decide +kernel
theorem d13_17 : decode prog_54_method_5_code 17 = .ok (.ldc2_w 31, 3) := by decide +kernel
theorem d13_20 : decode prog_54_method_5_code 20 = .ok (.lmul, 1) := by decide +kernel
theorem d13_21 : decode prog_54_method_5_code 21 = .ok (.lstore_n 0, 1) := by decide +kernel
theorem d13_22 : decode prog_54_method_5_code 22 = .ok (.lload_n 0, 1) := by decide +kernel
theorem d13_23 : decode prog_54_method_5_code 23 = .ok (.lload_n 0, 1) := by decide +kernel
theorem d13_24 : decode prog_54_method_5_code 24 = .ok (.bipush 31, 2) := by decide +kernel
theorem d13_26 : decode prog_54_method_5_code 26 = .ok (.lushr, 1) := by decide +kernel
theorem d13_27 : decode prog_54_method_5_code 27 = .ok (.lxor, 1) := by decide +kernel
theorem d13_28 : decode prog_54_method_5_code 28 = .ok (.lreturn, 1) := by decide +kernel
theorem pn_13 : plainName "com/example/strati/strati/sim/SplitMix64" = true := by first | (simp [plainName, overriddenIn]; done) | decide +kernel
theorem pd_13 : parseMethodDescriptor "(J)J" = some ⟨[.long], (some .long)⟩ := by decide +kernel
theorem ef_13 (m : MethodId) (x0 : Int64) : entryFrame m #[(.long x0)] 2 = mkF m 0 #[.val (.long x0), .second] [] := by first | (simp [entryFrame, mkF, argsToLocals, Value.category]; done) | rfl
def own_f13_1 (x0 : Int64) : Int64 := ((x0 ^^^ (XT.ushrL x0 (30 : Int32))) * (-4658895280553007687 : Int64))
def own_f13_2 (x0 : Int64) : Int64 := (((own_f13_1 x0) ^^^ (XT.ushrL (own_f13_1 x0) (27 : Int32))) * (-7723592293110705685 : Int64))
def own_f13 (x0 : Int64) : Int64 := ((own_f13_2 x0) ^^^ (XT.ushrL (own_f13_2 x0) (31 : Int32)))
def own_F13 (Z : State) (x0 : Int64)  (h0 : Heap) (v : Option Value) (h : Heap) (L : List Loc) : Prop := v = some (.long (own_f13 x0)) ∧ L = [] ∧ h = h0
set_option maxRecDepth 65536 in
set_option maxHeartbeats 40000000 in
theorem own_m13 (l : Launch) (Z : State) (a0 : Array Value) (hw : ∀ d ∈ tables_1, d.before a0 Z = true) (ws : List Jvm.Cond) (x0 : Int64)  (h0 : Heap)   :
    MetFree l (⟨"com/example/strati/strati/sim/SplitMix64", "mix", "(J)J"⟩ : MethodName) (head1 (Jvm.Cond.code (⟨"com/example/strati/strati/sim/SplitMix64", "mix", "(J)J"⟩ : MethodName) prog_54_method_5_code 2 (some .long) :: ws) ({ frames := 0, cells := 0, slots := 0, locals := 0 } : Room)) (fun a U => a = #[(.long x0)] ∧ Z.Warmed39 U.vm ∧ U.heap = h0) (fun _ _ _ _ _ => True) (fun _ U o U' => ∃ v L, o = .returned v ∧ own_F13 Z x0 h0 v U'.heap L ∧ FrameEnd U o U' L ({ frames := 0, cells := 0, slots := 0, locals := 0 } : Room).cells ({ frames := 0, cells := 0, slots := 0, locals := 0 } : Room).slots) := by
  refine MetFree.of_bodySF (plainFor_of_name pn_13) hisR ?_
  intro p e s m args below meth c s₁ Bd hml0 hP hK
  obtain ⟨rfl, hZ, hh⟩ := hP
  have hx := Bd.exec
  have hby := Bd.bytes
  have hml : c.maxLocals = 2 := hml0
  have hown : s.vm.findClass "com/example/strati/strati/sim/SplitMix64" = some m.cls := findClass_of_methodNamed Bd.named
  have hnm := (name_of_methodNamed Bd.named Bd.method).1
  have X0 : Stand p l e ({ frames := 0, cells := 0, slots := 0, locals := 0 } : Room) s m #[(.long x0)] below meth c s₁ [] 0 0 := Stand.of_body Bd
  have e0 : s₁.heap = h0 := by rw [← hh, Bd.state]; rfl
  have hgo : own_Goes p e below s (own_F13 Z x0 h0) 0 0 (s₁.setTop (mkF m 0 #[.val (.long x0), .second] [])) := by
    refine own_Goes.step (fun tq kq => XT.lloadN X0.here hx rfl (hb hby d13_0) rfl kq) ?_
    show own_Goes _ _ _ _ _ _ _ (s₁.setTop (mkF m 1 #[.val (.long x0), .second] [(.long x0)]))
    refine own_Goes.step (fun tq kq => XT.lloadN X0.here hx rfl (hb hby d13_1) rfl kq) ?_
    show own_Goes _ _ _ _ _ _ _ (s₁.setTop (mkF m 2 #[.val (.long x0), .second] [(.long x0), (.long x0)]))
    refine own_Goes.step (fun tq kq => XT.bipushV X0.here hx rfl (30 : Int32) (hb hby d13_2) (by decide) kq) ?_
    show own_Goes _ _ _ _ _ _ _ (s₁.setTop (mkF m 4 #[.val (.long x0), .second] [(.int (30 : Int32)), (.long x0), (.long x0)]))
    refine own_Goes.step (fun tq kq => XT.lushr X0.here hx rfl (hb hby d13_4) rfl kq) ?_
    show own_Goes _ _ _ _ _ _ _ (s₁.setTop (mkF m 5 #[.val (.long x0), .second] [(.long (XT.ushrL x0 (30 : Int32))), (.long x0)]))
    refine own_Goes.step (fun tq kq => XT.lxor X0.here hx rfl (hb hby d13_5) rfl kq) ?_
    show own_Goes _ _ _ _ _ _ _ (s₁.setTop (mkF m 6 #[.val (.long x0), .second] [(.long (x0 ^^^ (XT.ushrL x0 (30 : Int32))))]))
    refine own_Goes.step (fun tq kq => X0.ldc2J hx hown (mvT hZ (own_at hw 92 rfl)) rfl (hb hby d13_6) kq) ?_
    show own_Goes _ _ _ _ _ _ _ (s₁.setTop (mkF m 9 #[.val (.long x0), .second] [(.long (-4658895280553007687 : Int64)), (.long (x0 ^^^ (XT.ushrL x0 (30 : Int32))))]))
    refine own_Goes.step (fun tq kq => XT.lmul X0.here hx rfl (hb hby d13_9) rfl kq) ?_
    show own_Goes _ _ _ _ _ _ _ (s₁.setTop (mkF m 10 #[.val (.long x0), .second] [(.long ((x0 ^^^ (XT.ushrL x0 (30 : Int32))) * (-4658895280553007687 : Int64)))]))
    refine own_Goes.step (fun tq kq => XT.lstoreN X0.here hx rfl (hb hby d13_10) rfl (l' := #[.val (.long (own_f13_1 x0)), .second]) rfl kq) ?_
    show own_Goes _ _ _ _ _ _ _ (s₁.setTop (mkF m 11 #[.val (.long (own_f13_1 x0)), .second] []))
    refine own_Goes.step (fun tq kq => XT.lloadN X0.here hx rfl (hb hby d13_11) rfl kq) ?_
    show own_Goes _ _ _ _ _ _ _ (s₁.setTop (mkF m 12 #[.val (.long (own_f13_1 x0)), .second] [(.long (own_f13_1 x0))]))
    refine own_Goes.step (fun tq kq => XT.lloadN X0.here hx rfl (hb hby d13_12) rfl kq) ?_
    show own_Goes _ _ _ _ _ _ _ (s₁.setTop (mkF m 13 #[.val (.long (own_f13_1 x0)), .second] [(.long (own_f13_1 x0)), (.long (own_f13_1 x0))]))
    refine own_Goes.step (fun tq kq => XT.bipushV X0.here hx rfl (27 : Int32) (hb hby d13_13) (by decide) kq) ?_
    show own_Goes _ _ _ _ _ _ _ (s₁.setTop (mkF m 15 #[.val (.long (own_f13_1 x0)), .second] [(.int (27 : Int32)), (.long (own_f13_1 x0)), (.long (own_f13_1 x0))]))
    refine own_Goes.step (fun tq kq => XT.lushr X0.here hx rfl (hb hby d13_15) rfl kq) ?_
    show own_Goes _ _ _ _ _ _ _ (s₁.setTop (mkF m 16 #[.val (.long (own_f13_1 x0)), .second] [(.long (XT.ushrL (own_f13_1 x0) (27 : Int32))), (.long (own_f13_1 x0))]))
    refine own_Goes.step (fun tq kq => XT.lxor X0.here hx rfl (hb hby d13_16) rfl kq) ?_
    show own_Goes _ _ _ _ _ _ _ (s₁.setTop (mkF m 17 #[.val (.long (own_f13_1 x0)), .second] [(.long ((own_f13_1 x0) ^^^ (XT.ushrL (own_f13_1 x0) (27 : Int32))))]))
    refine own_Goes.step (fun tq kq => X0.ldc2J hx hown (mvT hZ (own_at hw 93 rfl)) rfl (hb hby d13_17) kq) ?_
    show own_Goes _ _ _ _ _ _ _ (s₁.setTop (mkF m 20 #[.val (.long (own_f13_1 x0)), .second] [(.long (-7723592293110705685 : Int64)), (.long ((own_f13_1 x0) ^^^ (XT.ushrL (own_f13_1 x0) (27 : Int32))))]))
    refine own_Goes.step (fun tq kq => XT.lmul X0.here hx rfl (hb hby d13_20) rfl kq) ?_
    show own_Goes _ _ _ _ _ _ _ (s₁.setTop (mkF m 21 #[.val (.long (own_f13_1 x0)), .second] [(.long (((own_f13_1 x0) ^^^ (XT.ushrL (own_f13_1 x0) (27 : Int32))) * (-7723592293110705685 : Int64)))]))
    refine own_Goes.step (fun tq kq => XT.lstoreN X0.here hx rfl (hb hby d13_21) rfl (l' := #[.val (.long (own_f13_2 x0)), .second]) rfl kq) ?_
    show own_Goes _ _ _ _ _ _ _ (s₁.setTop (mkF m 22 #[.val (.long (own_f13_2 x0)), .second] []))
    refine own_Goes.step (fun tq kq => XT.lloadN X0.here hx rfl (hb hby d13_22) rfl kq) ?_
    show own_Goes _ _ _ _ _ _ _ (s₁.setTop (mkF m 23 #[.val (.long (own_f13_2 x0)), .second] [(.long (own_f13_2 x0))]))
    refine own_Goes.step (fun tq kq => XT.lloadN X0.here hx rfl (hb hby d13_23) rfl kq) ?_
    show own_Goes _ _ _ _ _ _ _ (s₁.setTop (mkF m 24 #[.val (.long (own_f13_2 x0)), .second] [(.long (own_f13_2 x0)), (.long (own_f13_2 x0))]))
    refine own_Goes.step (fun tq kq => XT.bipushV X0.here hx rfl (31 : Int32) (hb hby d13_24) (by decide) kq) ?_
    show own_Goes _ _ _ _ _ _ _ (s₁.setTop (mkF m 26 #[.val (.long (own_f13_2 x0)), .second] [(.int (31 : Int32)), (.long (own_f13_2 x0)), (.long (own_f13_2 x0))]))
    refine own_Goes.step (fun tq kq => XT.lushr X0.here hx rfl (hb hby d13_26) rfl kq) ?_
    show own_Goes _ _ _ _ _ _ _ (s₁.setTop (mkF m 27 #[.val (.long (own_f13_2 x0)), .second] [(.long (XT.ushrL (own_f13_2 x0) (31 : Int32))), (.long (own_f13_2 x0))]))
    refine own_Goes.step (fun tq kq => XT.lxor X0.here hx rfl (hb hby d13_27) rfl kq) ?_
    show own_Goes _ _ _ _ _ _ _ (s₁.setTop (mkF m 28 #[.val (.long (own_f13_2 x0)), .second] [(.long ((own_f13_2 x0) ^^^ (XT.ushrL (own_f13_2 x0) (31 : Int32))))]))
    exact own_endJ X0 hx Bd.notSynchronized Bd.returns (hb hby d13_28) ⟨(congrArg (fun z => some (Value.long z)) (show ((own_f13_2 x0) ^^^ (XT.ushrL (own_f13_2 x0) (31 : Int32))) = own_f13 x0 from by simp only [own_f13])), rfl, e0⟩ (by decide) (by decide)
  obtain ⟨t2, o2, q1, q2, q3, q4⟩ := hgo
  exact ⟨t2, o2, castTop (ef_13 m x0) q1, q2, q3, q4⟩
def own_h (key : Int64) : Nat := ((own_f13 key).toInt32 &&& (15 : Int32)).toInt.toNat
theorem own_hb (key : Int64) : ((own_f13 key).toInt32 &&& (15 : Int32)).toInt = (own_h key : Nat) ∧ own_h key < 16 := by
  have m : ((own_f13 key).toInt32 &&& (15 : Int32)).toInt = (own_f13 key).toInt32.toInt % 2 ^ 4 := Jvm.Kit.i32_mask _ _ (k := 4) (by decide) (by decide)
  unfold own_h
  omega
def own_sl (K : Nat → Int64) (S : Nat → Int32) (key : Int64) : Nat → Nat → Option Nat
  | 0, _ => none
  | k + 1, a => if S a = (0 : Int32) then some a else if K (own_q (S a)) = key then some a else own_sl K S key k ((a + 1) % 16)
theorem own_sl_succ (K : Nat → Int64) (S : Nat → Int32) (key : Int64) (k a : Nat) : own_sl K S key (k + 1) a = if S a = (0 : Int32) then some a else if K (own_q (S a)) = key then some a else own_sl K S key k ((a + 1) % 16) := rfl
def own_set (S : Nat → Int32) (t : Nat) (v : Int32) : Nat → Int32 := fun j => if j = t then v else S j
def own_setJ (K : Nat → Int64) (t : Nat) (v : Int64) : Nat → Int64 := fun j => if j = t then v else K j
def own_ins (K : Nat → Int64) (σ : (Nat → Int32) × Nat × Int32) (p : Nat) : Option ((Nat → Int32) × Nat × Int32) :=
  (own_sl K σ.1 (K p) 16 (own_h (K p))).map fun t => if σ.1 t = (0 : Int32) then (own_set σ.1 t (Int32.ofNat (p + 1)), σ.2.1 + 1, Int32.ofNat t) else (σ.1, σ.2.1, (-1 : Int32))
def own_bld (K : Nat → Int64) (la : Int32) : Nat → Option ((Nat → Int32) × Nat × Int32)
  | 0 => some (fun _ => 0, 0, la)
  | k + 1 => (own_bld K la k).bind fun σ => own_ins K σ k
theorem d12_0 : decode prog_67_method_11_code 0 = .ok (.aload_n 1, 1) := by decide +kernel
theorem d12_1 : decode prog_67_method_11_code 1 = .ok (.arraylength, 1) := by decide +kernel
theorem d12_2 : decode prog_67_method_11_code 2 = .ok (.iconst 1, 1) := by decide +kernel
theorem d12_3 : decode prog_67_method_11_code 3 = .ok (.isub, 1) := by decide +kernel
theorem d12_4 : decode prog_67_method_11_code 4 = .ok (.istore 4, 2) := by decide +kernel
theorem d12_6 : decode prog_67_method_11_code 6 = .ok (.lload_n 2, 1) := by decide +kernel
theorem d12_7 : decode prog_67_method_11_code 7 = .ok (.invokestatic 87, 3) := by decide +kernel
theorem d12_10 : decode prog_67_method_11_code 10 = .ok (.l2i, 1) := by decide +kernel
theorem d12_11 : decode prog_67_method_11_code 11 = .ok (.iload 4, 2) := by decide +kernel
theorem d12_13 : decode prog_67_method_11_code 13 = .ok (.iand, 1) := by decide +kernel
theorem d12_14 : decode prog_67_method_11_code 14 = .ok (.istore 5, 2) := by decide +kernel
theorem d12_16 : decode prog_67_method_11_code 16 = .ok (.aload_n 1, 1) := by decide +kernel
theorem d12_17 : decode prog_67_method_11_code 17 = .ok (.iload 5, 2) := by decide +kernel
theorem d12_19 : decode prog_67_method_11_code 19 = .ok (.iaload, 1) := by decide +kernel
theorem d12_20 : decode prog_67_method_11_code 20 = .ok (.ifCond .eq 31, 3) := by decide +kernel
theorem d12_23 : decode prog_67_method_11_code 23 = .ok (.aload_n 0, 1) := by decide +kernel
theorem d12_24 : decode prog_67_method_11_code 24 = .ok (.getfield 9, 3) := by decide +kernel
theorem d12_27 : decode prog_67_method_11_code 27 = .ok (.aload_n 1, 1) := by decide +kernel
theorem d12_28 : decode prog_67_method_11_code 28 = .ok (.iload 5, 2) := by decide +kernel
theorem d12_30 : decode prog_67_method_11_code 30 = .ok (.iaload, 1) := by decide +kernel
theorem d12_31 : decode prog_67_method_11_code 31 = .ok (.iconst 1, 1) := by decide +kernel
theorem d12_32 : decode prog_67_method_11_code 32 = .ok (.isub, 1) := by decide +kernel
theorem d12_33 : decode prog_67_method_11_code 33 = .ok (.laload, 1) := by decide +kernel
theorem d12_34 : decode prog_67_method_11_code 34 = .ok (.lload_n 2, 1) := by decide +kernel
theorem d12_35 : decode prog_67_method_11_code 35 = .ok (.lcmp, 1) := by decide +kernel
theorem d12_36 : decode prog_67_method_11_code 36 = .ok (.ifCond .eq 15, 3) := by decide +kernel
theorem d12_39 : decode prog_67_method_11_code 39 = .ok (.iload 5, 2) := by decide +kernel
theorem d12_41 : decode prog_67_method_11_code 41 = .ok (.iconst 1, 1) := by decide +kernel
theorem d12_42 : decode prog_67_method_11_code 42 = .ok (.iadd, 1) := by decide +kernel
theorem d12_43 : decode prog_67_method_11_code 43 = .ok (.iload 4, 2) := by decide +kernel
theorem d12_45 : decode prog_67_method_11_code 45 = .ok (.iand, 1) := by decide +kernel
theorem d12_46 : decode prog_67_method_11_code 46 = .ok (.istore 5, 2) := by decide +kernel
theorem d12_48 : decode prog_67_method_11_code 48 = .ok (.goto (-32), 3) := by decide +kernel
theorem d12_51 : decode prog_67_method_11_code 51 = .ok (.iload 5, 2) := by decide +kernel
theorem d12_53 : decode prog_67_method_11_code 53 = .ok (.ireturn, 1) := by decide +kernel
theorem pn_12 : plainName "com/example/strati/strati/sim/WriteBuffer" = true := by first | (simp [plainName, overriddenIn]; done) | decide +kernel
theorem pd_12 : parseMethodDescriptor "([IJ)I" = some ⟨[(.array .int), .long], (some .int)⟩ := by decide +kernel
theorem ef_12 (m : MethodId) (x0 : Addr) (x1 : Addr) (x2 : Int64) : entryFrame m #[(.ref x0), (.ref x1), (.long x2)] 6 = mkF m 0 #[.val (.ref x0), .val (.ref x1), .val (.long x2), .second, .unset, .unset] [] := by first | (simp [entryFrame, mkF, argsToLocals, Value.category]; done) | rfl
def own_F12 (Z : State) (x0 : Addr) (x1 : Addr) (x2 : Int64) (kA : Addr) (K : Nat → Int64) (S : Nat → Int32) (tt : Nat) (n0 : Nat) (h0 : Heap) (v : Option Value) (h : Heap) (L : List Loc) : Prop := v = some (.int (Int32.ofNat tt)) ∧ L = [] ∧ h = h0
set_option maxRecDepth 65536 in
set_option maxHeartbeats 40000000 in
theorem own_m12 (l : Launch) (Z : State) (a0 : Array Value) (hw : ∀ d ∈ tables_1, d.before a0 Z = true) (ws : List Jvm.Cond) (x0 : Addr) (x1 : Addr) (x2 : Int64) (kA : Addr) (K : Nat → Int64) (S : Nat → Int32) (tt : Nat) (n0 : Nat) (h0 : Heap)  (PK : Fld Z h0 x0 "com/example/strati/strati/sim/WriteBuffer" "keys" "[J" (.ref kA)) (RK : own_Ar Z h0 kA .long 16 (fun uu => .long (K uu))) (RI : own_Ar Z h0 x1 .int 16 (fun uu => .int (S uu))) (hS : own_OK S) (hm : own_sl K S x2 16 (own_h x2) = some tt) :
    MetFree l (⟨"com/example/strati/strati/sim/WriteBuffer", "slot", "([IJ)I"⟩ : MethodName) (head1 (Jvm.Cond.code (⟨"com/example/strati/strati/sim/WriteBuffer", "slot", "([IJ)I"⟩ : MethodName) prog_67_method_11_code 6 (some .int) :: ws) ({ frames := 1, cells := 0, slots := 0, locals := 13 } : Room)) (fun a U => a = #[(.ref x0), (.ref x1), (.long x2)] ∧ Z.Warmed39 U.vm ∧ U.heap = h0) (fun _ _ _ _ _ => True) (fun _ U o U' => ∃ v L, o = .returned v ∧ own_F12 Z x0 x1 x2 kA K S tt n0 h0 v U'.heap L ∧ FrameEnd U o U' L ({ frames := 1, cells := 0, slots := 0, locals := 13 } : Room).cells ({ frames := 1, cells := 0, slots := 0, locals := 13 } : Room).slots) := by
  refine MetFree.of_bodySF (plainFor_of_name pn_12) hisR ?_
  intro p e s m args below meth c s₁ Bd hml0 hP hK
  obtain ⟨rfl, hZ, hh⟩ := hP
  have hx := Bd.exec
  have hby := Bd.bytes
  have hml : c.maxLocals = 6 := hml0
  have hown : s.vm.findClass "com/example/strati/strati/sim/WriteBuffer" = some m.cls := findClass_of_methodNamed Bd.named
  have hnm := (name_of_methodNamed Bd.named Bd.method).1
  have X0 : Stand p l e ({ frames := 1, cells := 0, slots := 0, locals := 13 } : Room) s m #[(.ref x0), (.ref x1), (.long x2)] below meth c s₁ [] 0 0 := Stand.of_body Bd
  have e0 : s₁.heap = h0 := by rw [← hh, Bd.state]; rfl
  have N0 := Fr.nil n0
  have K0 : Keep h0 h0 [] := Keep.refl h0 []
  have hgo : own_Goes p e below s (own_F12 Z x0 x1 x2 kA K S tt n0 h0) 0 0 (s₁.setTop (mkF m 0 #[.val (.ref x0), .val (.ref x1), .val (.long x2), .second, .unset, .unset] [])) := by
    refine own_Goes.step (fun tq kq => XS.aloadN X0.here hx rfl (hb hby d12_0) rfl rfl kq) ?_
    show own_Goes _ _ _ _ _ _ _ (s₁.setTop (mkF m 1 #[.val (.ref x0), .val (.ref x1), .val (.long x2), .second, .unset, .unset] [(.ref x1)]))
    refine own_Goes.step (own_alen X0 hx hZ e0 RI (z := (16 : Int32)) (by decide) (g := (mkF m 1 #[.val (.ref x0), .val (.ref x1), .val (.long x2), .second, .unset, .unset] [(.ref x1)])) rfl rfl (hb hby d12_1)) ?_
    show own_Goes _ _ _ _ _ _ _ (s₁.setTop (mkF m 2 #[.val (.ref x0), .val (.ref x1), .val (.long x2), .second, .unset, .unset] [(.int (16 : Int32))]))
    refine own_Goes.step (fun tq kq => XT.iconstV X0.here hx rfl (1 : Int32) (hb hby d12_2) (by decide) kq) ?_
    show own_Goes _ _ _ _ _ _ _ (s₁.setTop (mkF m 3 #[.val (.ref x0), .val (.ref x1), .val (.long x2), .second, .unset, .unset] [(.int (1 : Int32)), (.int (16 : Int32))]))
    refine own_Goes.step (fun tq kq => XS.isub X0.here hx rfl (hb hby d12_3) rfl kq) ?_
    show own_Goes _ _ _ _ _ _ _ (s₁.setTop (mkF m 4 #[.val (.ref x0), .val (.ref x1), .val (.long x2), .second, .unset, .unset] [(.int (15 : Int32))]))
    refine own_Goes.step (fun tq kq => XS.istore X0.here hx rfl (hb hby d12_4) rfl (l' := #[.val (.ref x0), .val (.ref x1), .val (.long x2), .second, .val (.int (15 : Int32)), .unset]) rfl kq) ?_
    show own_Goes _ _ _ _ _ _ _ (s₁.setTop (mkF m 6 #[.val (.ref x0), .val (.ref x1), .val (.long x2), .second, .val (.int (15 : Int32)), .unset] []))
    refine own_Goes.step (fun tq kq => XT.lloadN X0.here hx rfl (hb hby d12_6) rfl kq) ?_
    show own_Goes _ _ _ _ _ _ _ (s₁.setTop (mkF m 7 #[.val (.ref x0), .val (.ref x1), .val (.long x2), .second, .val (.int (15 : Int32)), .unset] [(.long x2)]))
    obtain ⟨w2, T2, L2, q2, Y2, st2⟩ := own_stat X0 hx hZ e0 hown (own_at hw 88 rfl) (own_at hw 89 rfl) (own_at hw 90 rfl) (own_at hw 91 rfl) (by decide) (own_m13 l Z a0 hw [] x2 h0 ) (by decide) (W := 0) (by decide) (by decide) (by decide) (g := (mkF m 7 #[.val (.ref x0), .val (.ref x1), .val (.long x2), .second, .val (.int (15 : Int32)), .unset] [(.long x2)])) rfl (by rw [hml]; rfl) (argsL := [(.long x2)]) (rest := []) (lenOf pd_13 rfl) rfl (by show 2 * 0 + _ ≤ _; exact Nat.le_of_eq rfl) (hb hby d12_7)
    obtain ⟨e2, X2⟩ := own_clean q2 Y2 rfl rfl
    obtain ⟨rfl, -, -⟩ := q2
    refine own_Goes.step st2 ?_
    show own_Goes _ _ _ _ _ _ _ (T2.setTop (mkF m 10 #[.val (.ref x0), .val (.ref x1), .val (.long x2), .second, .val (.int (15 : Int32)), .unset] [(.long (own_f13 x2))]))
    refine own_Goes.step (fun tq kq => XT.l2i X2.here hx rfl (hb hby d12_10) rfl kq) ?_
    show own_Goes _ _ _ _ _ _ _ (T2.setTop (mkF m 11 #[.val (.ref x0), .val (.ref x1), .val (.long x2), .second, .val (.int (15 : Int32)), .unset] [(.int ((own_f13 x2).toInt32))]))
    refine own_Goes.step (fun tq kq => XS.iload X2.here hx rfl (hb hby d12_11) rfl kq) ?_
    show own_Goes _ _ _ _ _ _ _ (T2.setTop (mkF m 13 #[.val (.ref x0), .val (.ref x1), .val (.long x2), .second, .val (.int (15 : Int32)), .unset] [(.int (15 : Int32)), (.int ((own_f13 x2).toInt32))]))
    refine own_Goes.step (fun tq kq => XS.iand X2.here hx rfl (hb hby d12_13) rfl kq) ?_
    show own_Goes _ _ _ _ _ _ _ (T2.setTop (mkF m 14 #[.val (.ref x0), .val (.ref x1), .val (.long x2), .second, .val (.int (15 : Int32)), .unset] [(.int (((own_f13 x2).toInt32) &&& (15 : Int32)))]))
    refine own_Goes.step (fun tq kq => XS.istore X2.here hx rfl (hb hby d12_14) rfl (l' := #[.val (.ref x0), .val (.ref x1), .val (.long x2), .second, .val (.int (15 : Int32)), .val (.int (((own_f13 x2).toInt32) &&& (15 : Int32)))]) rfl kq) ?_
    show own_Goes _ _ _ _ _ _ _ (T2.setTop (mkF m 16 #[.val (.ref x0), .val (.ref x1), .val (.long x2), .second, .val (.int (15 : Int32)), .val (.int (((own_f13 x2).toInt32) &&& (15 : Int32)))] []))
    have loop : ∀ (fu a : Nat) (iv : Int32) (T : State) (X : Stand p l e ({ frames := 1, cells := 0, slots := 0, locals := 13 } : Room) s m #[(.ref x0), (.ref x1), (.long x2)] below meth c T [] 0 0) (eT : T.heap = h0), iv.toInt = (a : Nat) → a < 16 → own_sl K S x2 fu a = some tt → own_Goes p e below s (own_F12 Z x0 x1 x2 kA K S tt n0 h0) 0 0 (T.setTop (mkF m 16 #[.val (.ref x0), .val (.ref x1), .val (.long x2), .second, .val (.int (15 : Int32)), .val (.int iv)] [])) := by
      intro fu
      induction fu with
      | zero => intro a iv T X eT hi ha hm; cases hm
      | succ fu ih =>
        intro a iv T X eT hi ha hm
        rw [own_sl_succ] at hm
        refine own_Goes.step (fun tq kq => XS.aloadN X.here hx rfl (hb hby d12_16) rfl rfl kq) ?_
        show own_Goes _ _ _ _ _ _ _ (T.setTop (mkF m 17 #[.val (.ref x0), .val (.ref x1), .val (.long x2), .second, .val (.int (15 : Int32)), .val (.int iv)] [(.ref x1)]))
        refine own_Goes.step (fun tq kq => XS.iload X.here hx rfl (hb hby d12_17) rfl kq) ?_
        show own_Goes _ _ _ _ _ _ _ (T.setTop (mkF m 19 #[.val (.ref x0), .val (.ref x1), .val (.long x2), .second, .val (.int (15 : Int32)), .val (.int iv)] [(.int iv), (.ref x1)]))
        refine own_Goes.step (own_iald X hx hZ eT RI (i := a) hi ha (v := (.int (S a))) rfl (g := (mkF m 19 #[.val (.ref x0), .val (.ref x1), .val (.long x2), .second, .val (.int (15 : Int32)), .val (.int iv)] [(.int iv), (.ref x1)])) rfl rfl (hb hby d12_19)) ?_
        show own_Goes _ _ _ _ _ _ _ (T.setTop (mkF m 20 #[.val (.ref x0), .val (.ref x1), .val (.long x2), .second, .val (.int (15 : Int32)), .val (.int iv)] [(.int (S a))]))
        by_cases hc4 : (S a) = (0 : Int32)
        · refine own_Goes.step (fun tq kq => XS.ifYes X.here hx rfl (pc0 := 20) (pc' := 51) rfl (hb hby d12_20) rfl (XT.i0_eq_t hc4) (by decide) (by decide) kq) ?_
          show own_Goes _ _ _ _ _ _ _ (T.setTop (mkF m 51 #[.val (.ref x0), .val (.ref x1), .val (.long x2), .second, .val (.int (15 : Int32)), .val (.int iv)] []))
          refine own_Goes.step (fun tq kq => XS.iload X.here hx rfl (hb hby d12_51) rfl kq) ?_
          show own_Goes _ _ _ _ _ _ _ (T.setTop (mkF m 53 #[.val (.ref x0), .val (.ref x1), .val (.long x2), .second, .val (.int (15 : Int32)), .val (.int iv)] [(.int iv)]))
          refine own_endI X hx Bd.notSynchronized Bd.returns (hb hby d12_53) ?_ (by decide) (by decide)
          show own_F12 Z x0 x1 x2 kA K S tt n0 h0 _ T.heap _
          rw [eT]
          rw [if_pos hc4] at hm
          cases hm
          exact ⟨congrArg (fun z => some (Value.int z)) (own_self hi).symm, rfl, rfl⟩
        · refine own_Goes.step (fun tq kq => XS.ifNo X.here hx rfl (hb hby d12_20) rfl (XT.i0_eq_f hc4) kq) ?_
          show own_Goes _ _ _ _ _ _ _ (T.setTop (mkF m 23 #[.val (.ref x0), .val (.ref x1), .val (.long x2), .second, .val (.int (15 : Int32)), .val (.int iv)] []))
          refine own_Goes.step (fun tq kq => XS.aloadN X.here hx rfl (hb hby d12_23) rfl rfl kq) ?_
          show own_Goes _ _ _ _ _ _ _ (T.setTop (mkF m 24 #[.val (.ref x0), .val (.ref x1), .val (.long x2), .second, .val (.int (15 : Int32)), .val (.int iv)] [(.ref x0)]))
          obtain ⟨T5, X5, e5, st5⟩ := getF X hx hZ hown (host := "") (Or.inl (own_at hw 10 rfl)) Via.refl eT PK (g := (mkF m 24 #[.val (.ref x0), .val (.ref x1), .val (.long x2), .second, .val (.int (15 : Int32)), .val (.int iv)] [(.ref x0)])) rfl rfl (hb hby d12_24)
          refine own_Goes.step st5 ?_
          show own_Goes _ _ _ _ _ _ _ (T5.setTop (mkF m 27 #[.val (.ref x0), .val (.ref x1), .val (.long x2), .second, .val (.int (15 : Int32)), .val (.int iv)] [(.ref kA)]))
          refine own_Goes.step (fun tq kq => XS.aloadN X5.here hx rfl (hb hby d12_27) rfl rfl kq) ?_
          show own_Goes _ _ _ _ _ _ _ (T5.setTop (mkF m 28 #[.val (.ref x0), .val (.ref x1), .val (.long x2), .second, .val (.int (15 : Int32)), .val (.int iv)] [(.ref x1), (.ref kA)]))
          refine own_Goes.step (fun tq kq => XS.iload X5.here hx rfl (hb hby d12_28) rfl kq) ?_
          show own_Goes _ _ _ _ _ _ _ (T5.setTop (mkF m 30 #[.val (.ref x0), .val (.ref x1), .val (.long x2), .second, .val (.int (15 : Int32)), .val (.int iv)] [(.int iv), (.ref x1), (.ref kA)]))
          refine own_Goes.step (own_iald X5 hx hZ e5 RI (i := a) hi ha (v := (.int (S a))) rfl (g := (mkF m 30 #[.val (.ref x0), .val (.ref x1), .val (.long x2), .second, .val (.int (15 : Int32)), .val (.int iv)] [(.int iv), (.ref x1), (.ref kA)])) rfl rfl (hb hby d12_30)) ?_
          show own_Goes _ _ _ _ _ _ _ (T5.setTop (mkF m 31 #[.val (.ref x0), .val (.ref x1), .val (.long x2), .second, .val (.int (15 : Int32)), .val (.int iv)] [(.int (S a)), (.ref kA)]))
          refine own_Goes.step (fun tq kq => XT.iconstV X5.here hx rfl (1 : Int32) (hb hby d12_31) (by decide) kq) ?_
          show own_Goes _ _ _ _ _ _ _ (T5.setTop (mkF m 32 #[.val (.ref x0), .val (.ref x1), .val (.long x2), .second, .val (.int (15 : Int32)), .val (.int iv)] [(.int (1 : Int32)), (.int (S a)), (.ref kA)]))
          refine own_Goes.step (fun tq kq => XS.isub X5.here hx rfl (hb hby d12_32) rfl kq) ?_
          show own_Goes _ _ _ _ _ _ _ (T5.setTop (mkF m 33 #[.val (.ref x0), .val (.ref x1), .val (.long x2), .second, .val (.int (15 : Int32)), .val (.int iv)] [(.int ((S a) - (1 : Int32))), (.ref kA)]))
          refine own_Goes.step (own_lald X5 hx hZ e5 RK (i := own_q (S a)) (own_qe hS ha hc4).1 (own_qe hS ha hc4).2 (v := (.long (K (own_q (S a))))) rfl (g := (mkF m 33 #[.val (.ref x0), .val (.ref x1), .val (.long x2), .second, .val (.int (15 : Int32)), .val (.int iv)] [(.int ((S a) - (1 : Int32))), (.ref kA)])) rfl rfl (hb hby d12_33)) ?_
          show own_Goes _ _ _ _ _ _ _ (T5.setTop (mkF m 34 #[.val (.ref x0), .val (.ref x1), .val (.long x2), .second, .val (.int (15 : Int32)), .val (.int iv)] [(.long (K (own_q (S a))))]))
          refine own_Goes.step (fun tq kq => XT.lloadN X5.here hx rfl (hb hby d12_34) rfl kq) ?_
          show own_Goes _ _ _ _ _ _ _ (T5.setTop (mkF m 35 #[.val (.ref x0), .val (.ref x1), .val (.long x2), .second, .val (.int (15 : Int32)), .val (.int iv)] [(.long x2), (.long (K (own_q (S a))))]))
          refine own_Goes.step (fun tq kq => XT.lcmp X5.here hx rfl (hb hby d12_35) rfl kq) ?_
          show own_Goes _ _ _ _ _ _ _ (T5.setTop (mkF m 36 #[.val (.ref x0), .val (.ref x1), .val (.long x2), .second, .val (.int (15 : Int32)), .val (.int iv)] [(.int (XT.cmpL (K (own_q (S a))) x2))]))
          by_cases hc8 : (K (own_q (S a))) = x2
          · refine own_Goes.step (fun tq kq => XS.ifYes X5.here hx rfl (pc0 := 36) (pc' := 51) rfl (hb hby d12_36) rfl (XT.ll_eq_t hc8) (by decide) (by decide) kq) ?_
            show own_Goes _ _ _ _ _ _ _ (T5.setTop (mkF m 51 #[.val (.ref x0), .val (.ref x1), .val (.long x2), .second, .val (.int (15 : Int32)), .val (.int iv)] []))
            refine own_Goes.step (fun tq kq => XS.iload X5.here hx rfl (hb hby d12_51) rfl kq) ?_
            show own_Goes _ _ _ _ _ _ _ (T5.setTop (mkF m 53 #[.val (.ref x0), .val (.ref x1), .val (.long x2), .second, .val (.int (15 : Int32)), .val (.int iv)] [(.int iv)]))
            refine own_endI X5 hx Bd.notSynchronized Bd.returns (hb hby d12_53) ?_ (by decide) (by decide)
            show own_F12 Z x0 x1 x2 kA K S tt n0 h0 _ T5.heap _
            rw [e5]
            rw [if_neg hc4, if_pos hc8] at hm
            cases hm
            exact ⟨congrArg (fun z => some (Value.int z)) (own_self hi).symm, rfl, rfl⟩
          · refine own_Goes.step (fun tq kq => XS.ifNo X5.here hx rfl (hb hby d12_36) rfl (XT.ll_eq_f hc8) kq) ?_
            show own_Goes _ _ _ _ _ _ _ (T5.setTop (mkF m 39 #[.val (.ref x0), .val (.ref x1), .val (.long x2), .second, .val (.int (15 : Int32)), .val (.int iv)] []))
            refine own_Goes.step (fun tq kq => XS.iload X5.here hx rfl (hb hby d12_39) rfl kq) ?_
            show own_Goes _ _ _ _ _ _ _ (T5.setTop (mkF m 41 #[.val (.ref x0), .val (.ref x1), .val (.long x2), .second, .val (.int (15 : Int32)), .val (.int iv)] [(.int iv)]))
            refine own_Goes.step (fun tq kq => XT.iconstV X5.here hx rfl (1 : Int32) (hb hby d12_41) (by decide) kq) ?_
            show own_Goes _ _ _ _ _ _ _ (T5.setTop (mkF m 42 #[.val (.ref x0), .val (.ref x1), .val (.long x2), .second, .val (.int (15 : Int32)), .val (.int iv)] [(.int (1 : Int32)), (.int iv)]))
            refine own_Goes.step (fun tq kq => XS.iadd X5.here hx rfl (hb hby d12_42) rfl kq) ?_
            show own_Goes _ _ _ _ _ _ _ (T5.setTop (mkF m 43 #[.val (.ref x0), .val (.ref x1), .val (.long x2), .second, .val (.int (15 : Int32)), .val (.int iv)] [(.int (iv + (1 : Int32)))]))
            refine own_Goes.step (fun tq kq => XS.iload X5.here hx rfl (hb hby d12_43) rfl kq) ?_
            show own_Goes _ _ _ _ _ _ _ (T5.setTop (mkF m 45 #[.val (.ref x0), .val (.ref x1), .val (.long x2), .second, .val (.int (15 : Int32)), .val (.int iv)] [(.int (15 : Int32)), (.int (iv + (1 : Int32)))]))
            refine own_Goes.step (fun tq kq => XS.iand X5.here hx rfl (hb hby d12_45) rfl kq) ?_
            show own_Goes _ _ _ _ _ _ _ (T5.setTop (mkF m 46 #[.val (.ref x0), .val (.ref x1), .val (.long x2), .second, .val (.int (15 : Int32)), .val (.int iv)] [(.int ((iv + (1 : Int32)) &&& (15 : Int32)))]))
            refine own_Goes.step (fun tq kq => XS.istore X5.here hx rfl (hb hby d12_46) rfl (l' := #[.val (.ref x0), .val (.ref x1), .val (.long x2), .second, .val (.int (15 : Int32)), .val (.int ((iv + (1 : Int32)) &&& (15 : Int32)))]) rfl kq) ?_
            show own_Goes _ _ _ _ _ _ _ (T5.setTop (mkF m 48 #[.val (.ref x0), .val (.ref x1), .val (.long x2), .second, .val (.int (15 : Int32)), .val (.int ((iv + (1 : Int32)) &&& (15 : Int32)))] []))
            refine own_Goes.step (fun tq kq => XS.goto X5.here hx rfl (pc0 := 48) (pc' := 16) rfl (hb hby d12_48) (by decide) (by decide) kq) ?_
            show own_Goes _ _ _ _ _ _ _ (T5.setTop (mkF m 16 #[.val (.ref x0), .val (.ref x1), .val (.long x2), .second, .val (.int (15 : Int32)), .val (.int ((iv + (1 : Int32)) &&& (15 : Int32)))] []))
            exact ih ((a + 1) % 16) _ T5 X5 e5 (own_nxt hi ha) (Nat.mod_lt _ (by decide)) (by rw [if_neg hc4, if_neg hc8] at hm; exact hm)
    exact loop 16 (own_h x2) _ T2 X2 e2 (own_hb x2).1 (own_hb x2).2 hm
  obtain ⟨t2, o2, q1, q2, q3, q4⟩ := hgo
  exact ⟨t2, o2, castTop (ef_12 m x0 x1 x2) q1, q2, q3, q4⟩
/-! the hash index, in plain words -/
def own_bi (b : Bool) : Int32 := if b = true then 1 else 0
def own_mem (K : Nat → Int64) : Nat → Int64 → Bool
  | 0, _ => false
  | k + 1, key => own_mem K k key || decide (K k = key)
def own_OKn (S : Nat → Int32) (n : Nat) : Prop := ∀ i, S i = 0 ∨ (1 ≤ (S i).toInt ∧ (S i).toInt ≤ n)
theorem own_OKn.ok {S : Nat → Int32} {n : Nat} (h : own_OKn S n) (hn : n ≤ 16) : own_OK S := fun i _ => (h i).imp id fun q => ⟨q.1, by omega⟩
theorem own_OKn.mono {S : Nat → Int32} {n m : Nat} (h : own_OKn S n) (hn : n ≤ m) : own_OKn S m := fun i => (h i).imp id fun q => ⟨q.1, by omega⟩
theorem own_q_lt {S : Nat → Int32} {n : Nat} (h : own_OKn S n) {a : Nat} (ha : ¬ S a = 0) : own_q (S a) < n := by
  have b := (h a).resolve_left ha
  unfold own_q
  omega
theorem own_sl_lt (K : Nat → Int64) (S : Nat → Int32) (key : Int64) : ∀ (k a t : Nat), a < 16 → own_sl K S key k a = some t → t < 16 := by
  intro k
  induction k with
  | zero => intro a t ha h; cases h
  | succ k ih =>
    intro a t ha h
    rw [own_sl_succ] at h
    split at h
    · cases h; exact ha
    · split at h
      · cases h; exact ha
      · exact ih _ _ (Nat.mod_lt _ (by decide)) h
/-- where it stops: an empty slot, or the key's own -/
theorem own_sl_stop (K : Nat → Int64) (S : Nat → Int32) (key : Int64) : ∀ (k a t : Nat), own_sl K S key k a = some t → S t = 0 ∨ K (own_q (S t)) = key := by
  intro k
  induction k with
  | zero => intro a t h; cases h
  | succ k ih =>
    intro a t h
    rw [own_sl_succ] at h
    split at h
    · next q => cases h; exact Or.inl q
    · split at h
      · next q => cases h; exact Or.inr q
      · exact ih _ _ h
theorem own_sl_congr {K K' : Nat → Int64} {S : Nat → Int32} {n : Nat} (hS : own_OKn S n) (hK : ∀ j, j < n → K j = K' j) (key : Int64) : ∀ (k a : Nat), own_sl K S key k a = own_sl K' S key k a := by
  intro k
  induction k with
  | zero => intro a; rfl
  | succ k ih =>
    intro a
    rw [own_sl_succ, own_sl_succ, ih]
    by_cases q : S a = 0
    · rw [if_pos q, if_pos q]
    · rw [if_neg q, if_neg q, hK _ (own_q_lt hS q)]
theorem own_sl_keep (K : Nat → Int64) (S : Nat → Int32) (key : Int64) (s : Nat) (v : Int32) (hs : S s = 0) : ∀ (k a t : Nat), own_sl K S key k a = some t → ¬ S t = 0 → own_sl K (own_set S s v) key k a = some t := by
  intro k
  induction k with
  | zero => intro a t h; cases h
  | succ k ih =>
    intro a t h ht
    rw [own_sl_succ] at h ⊢
    by_cases q : S a = 0
    · rw [if_pos q] at h; cases h; exact absurd q ht
    · rw [if_neg q] at h
      have hne : ¬ a = s := fun e => q (by rw [e]; exact hs)
      have e : own_set S s v a = S a := if_neg hne
      rw [e, if_neg q]
      by_cases r : K (own_q (S a)) = key
      · rw [if_pos r] at h ⊢; exact h
      · rw [if_neg r] at h ⊢; exact ih _ _ h ht
theorem own_sl_new (K : Nat → Int64) (S : Nat → Int32) (key : Int64) (s : Nat) (v : Int32) (hs : S s = 0) (hv : ¬ v = 0) (hk : K (own_q v) = key) : ∀ (k a : Nat), own_sl K S key k a = some s → own_sl K (own_set S s v) key k a = some s := by
  intro k
  induction k with
  | zero => intro a h; cases h
  | succ k ih =>
    intro a h
    rw [own_sl_succ] at h ⊢
    by_cases q : S a = 0
    · rw [if_pos q] at h
      cases h
      have e : own_set S s v s = v := if_pos rfl
      rw [e, if_neg hv, if_pos hk]
    · rw [if_neg q] at h
      have hne : ¬ a = s := fun e => q (by rw [e]; exact hs)
      have e : own_set S s v a = S a := if_neg hne
      rw [e, if_neg q]
      by_cases r : K (own_q (S a)) = key
      · rw [if_pos r] at h ⊢; exact h
      · rw [if_neg r] at h ⊢; exact ih _ h
/-- it runs out of turns only where every slot that it passed is taken -/
theorem own_sl_none (K : Nat → Int64) (S : Nat → Int32) (key : Int64) : ∀ (k a : Nat), a < 16 → own_sl K S key k a = none → ∀ j, j < k → ¬ S ((a + j) % 16) = 0 := by
  intro k
  induction k with
  | zero => intro a ha h j hj; omega
  | succ k ih =>
    intro a ha h j hj
    rw [own_sl_succ] at h
    by_cases q : S a = 0
    · rw [if_pos q] at h; cases h
    · rw [if_neg q] at h
      by_cases r : K (own_q (S a)) = key
      · rw [if_pos r] at h; cases h
      · rw [if_neg r] at h
        cases j with
        | zero => rw [Nat.add_zero, Nat.mod_eq_of_lt ha]; exact q
        | succ j =>
          have := ih ((a + 1) % 16) (Nat.mod_lt _ (by decide)) h j (by omega)
          have e : ((a + 1) % 16 + j) % 16 = (a + (j + 1)) % 16 := by omega
          rw [e] at this
          exact this
theorem own_sl_some (K : Nat → Int64) (S : Nat → Int32) (key : Int64) (e : Nat) (he : e < 16) (hS : S e = 0) : ∃ t, t < 16 ∧ own_sl K S key 16 (own_h key) = some t := by
  cases h : own_sl K S key 16 (own_h key) with
  | some t => exact ⟨t, own_sl_lt K S key _ _ _ (own_hb key).2 h, rfl⟩
  | none =>
    have hb := (own_hb key).2
    have q := own_sl_none K S key 16 (own_h key) hb h ((e + 16 - own_h key) % 16) (Nat.mod_lt _ (by decide))
    have e2 : (own_h key + (e + 16 - own_h key) % 16) % 16 = e := by omega
    rw [e2] at q
    exact absurd hS q
/-- what an index of the first n keys is -/
def own_Inv (K : Nat → Int64) (n : Nat) (S : Nat → Int32) (ixn : Nat) : Prop :=
  own_OKn S n ∧ ixn ≤ n ∧ (∃ ps : List Nat, ps.length ≤ n ∧ ∀ i, ¬ S i = 0 → i ∈ ps) ∧ ∀ key, own_mem K n key = true → ∃ t, own_sl K S key 16 (own_h key) = some t ∧ ¬ S t = 0
theorem own_free (ps : List Nat) (h : ps.length ≤ 3) : ∃ e, e < 16 ∧ e ∉ ps := by
  match ps, h with
  | [], _ => exact ⟨0, by decide, by simp⟩
  | [a], _ =>
    by_cases q : a = 0
    · exact ⟨1, by decide, by simp; omega⟩
    · exact ⟨0, by decide, by simp; omega⟩
  | [a, b], _ =>
    by_cases q0 : a = 0 ∨ b = 0
    · by_cases q1 : a = 1 ∨ b = 1
      · exact ⟨2, by decide, by simp; omega⟩
      · exact ⟨1, by decide, by simp; omega⟩
    · exact ⟨0, by decide, by simp; omega⟩
  | [a, b, c], _ =>
    by_cases q0 : a = 0 ∨ b = 0 ∨ c = 0
    · by_cases q1 : a = 1 ∨ b = 1 ∨ c = 1
      · by_cases q2 : a = 2 ∨ b = 2 ∨ c = 2
        · exact ⟨3, by decide, by simp; omega⟩
        · exact ⟨2, by decide, by simp; omega⟩
      · exact ⟨1, by decide, by simp; omega⟩
    · exact ⟨0, by decide, by simp; omega⟩
theorem own_Inv.find {K : Nat → Int64} {n : Nat} {S : Nat → Int32} {ixn : Nat} (I : own_Inv K n S ixn) (hn : n ≤ 3) (key : Int64) : ∃ t, t < 16 ∧ own_sl K S key 16 (own_h key) = some t := by
  obtain ⟨-, -, ⟨ps, hl, hp⟩, -⟩ := I
  obtain ⟨e, he, hm⟩ := own_free ps (by omega)
  have : S e = 0 := Decidable.byContradiction fun q => hm (hp e q)
  exact own_sl_some K S key e he this
theorem own_mem_of (K : Nat → Int64) (n j : Nat) (hj : j < n) : own_mem K n (K j) = true := by
  induction n with
  | zero => omega
  | succ n ih =>
    show (own_mem K n (K j) || decide (K n = K j)) = true
    by_cases q : j = n
    · subst q; simp
    · rw [ih (by omega)]; rfl
theorem own_Inv.says {K : Nat → Int64} {n : Nat} {S : Nat → Int32} {ixn : Nat} (I : own_Inv K n S ixn) {key : Int64} {t : Nat} (h : own_sl K S key 16 (own_h key) = some t) : ¬ S t = 0 ↔ own_mem K n key = true := by
  constructor
  · intro q
    have e := (own_sl_stop K S key _ _ _ h).resolve_left q
    rw [← e]
    exact own_mem_of K n _ (own_q_lt I.1 q)
  · intro q
    obtain ⟨t', h', hs⟩ := I.2.2.2 key q
    cases h.symm.trans h'
    exact hs
theorem own_Inv.zero (K : Nat → Int64) : own_Inv K 0 (fun _ => 0) 0 := ⟨fun _ => Or.inl rfl, Nat.le_refl _, ⟨[], Nat.le_refl _, fun i q => absurd rfl q⟩, fun key h => by cases h⟩
theorem own_ofNat_succ (n : Nat) (hn : n < 16) : ¬ Int32.ofNat (n + 1) = 0 ∧ own_q (Int32.ofNat (n + 1)) = n ∧ (Int32.ofNat (n + 1)).toInt = n + 1 := by
  have e := own_toI (n := n + 1) (by omega)
  refine ⟨fun q => ?_, ?_, by omega⟩
  · rw [q] at e
    have z : (0 : Int32).toInt = 0 := rfl
    omega
  · unfold own_q
    omega
theorem own_Inv.ins {K : Nat → Int64} {n : Nat} {S : Nat → Int32} {ixn : Nat} (I : own_Inv K n S ixn) (hn : n < 16) {t : Nat} (h : own_sl K S (K n) 16 (own_h (K n)) = some t) :
    own_Inv K (n + 1) (if S t = 0 then own_set S t (Int32.ofNat (n + 1)) else S) (if S t = 0 then ixn + 1 else ixn) := by
  obtain ⟨i1, i2, ⟨ps, i3, i4⟩, i5⟩ := I
  obtain ⟨o1, o2, o3⟩ := own_ofNat_succ n hn
  by_cases q : S t = 0
  · rw [if_pos q, if_pos q]
    refine ⟨fun i => ?_, by omega, ⟨t :: ps, by simp; omega, fun i hi => ?_⟩, fun key hk => ?_⟩
    · by_cases e : i = t
      · have : own_set S t (Int32.ofNat (n + 1)) i = Int32.ofNat (n + 1) := if_pos e
        rw [this]
        exact Or.inr ⟨by omega, by omega⟩
      · have : own_set S t (Int32.ofNat (n + 1)) i = S i := if_neg e
        rw [this]
        exact (i1 i).imp id fun z => ⟨z.1, by omega⟩
    · by_cases e : i = t
      · rw [e]; exact List.mem_cons_self
      · have : own_set S t (Int32.ofNat (n + 1)) i = S i := if_neg e
        rw [this] at hi
        exact List.mem_cons_of_mem _ (i4 i hi)
    · by_cases e : K n = key
      · refine ⟨t, ?_, ?_⟩
        · rw [← e]
          exact own_sl_new K S (K n) t _ q o1 (by rw [o2]) _ _ h
        · have : own_set S t (Int32.ofNat (n + 1)) t = Int32.ofNat (n + 1) := if_pos rfl
          rw [this]; exact o1
      · have hk' : own_mem K n key = true := by
          have hh : (own_mem K n key || decide (K n = key)) = true := hk
          rw [decide_eq_false e, Bool.or_false] at hh
          exact hh
        obtain ⟨t', h', hs⟩ := i5 key hk'
        refine ⟨t', own_sl_keep K S key t _ q _ _ _ h' hs, ?_⟩
        have hne : ¬ t' = t := fun e => hs (by rw [e]; exact q)
        have : own_set S t (Int32.ofNat (n + 1)) t' = S t' := if_neg hne
        rw [this]; exact hs
  · rw [if_neg q, if_neg q]
    refine ⟨i1.mono (by omega), by omega, ⟨ps, by omega, i4⟩, fun key hk => ?_⟩
    by_cases e : K n = key
    · exact ⟨t, by rw [← e]; exact h, q⟩
    · have hh : (own_mem K n key || decide (K n = key)) = true := hk
      rw [decide_eq_false e, Bool.or_false] at hh
      exact i5 key hh
theorem own_ins_eq (K : Nat → Int64) (S : Nat → Int32) (ixn : Nat) (la : Int32) (p t : Nat) (h : own_sl K S (K p) 16 (own_h (K p)) = some t) :
    own_ins K (S, ixn, la) p = some (if S t = 0 then own_set S t (Int32.ofNat (p + 1)) else S, if S t = 0 then ixn + 1 else ixn, if S t = 0 then Int32.ofNat t else -1) := by
  unfold own_ins
  rw [show own_sl K (S, ixn, la).1 (K p) 16 (own_h (K p)) = some t from h]
  show some (if S t = 0 then _ else _) = _
  by_cases q : S t = 0
  · simp only [if_pos q]
  · simp only [if_neg q]
/-- the index of the first n keys (n at most 3): it is made, and its Inv holds -/
theorem own_built (K : Nat → Int64) (la : Int32) : ∀ n, n ≤ 3 → ∃ S ixn la', own_bld K la n = some (S, ixn, la') ∧ own_Inv K n S ixn := by
  intro n
  induction n with
  | zero => intro _; exact ⟨_, _, _, rfl, own_Inv.zero K⟩
  | succ n ih =>
    intro hn
    obtain ⟨S, ixn, la', hb, I⟩ := ih (by omega)
    obtain ⟨t, ht, hs⟩ := I.find (by omega) (K n)
    refine ⟨_, _, if S t = 0 then Int32.ofNat t else -1, ?_, I.ins (by omega) hs⟩
    · show (own_bld K la n).bind (fun σ => own_ins K σ n) = _
      rw [hb]
      exact own_ins_eq K S ixn la' n t hs
theorem own_bld_inv {K : Nat → Int64} {la : Int32} {n : Nat} (hn : n ≤ 3) {S : Nat → Int32} {ixn : Nat} {la' : Int32} (hb : own_bld K la n = some (S, ixn, la')) : own_Inv K n S ixn := by
  obtain ⟨S1, i1, l1, h1, I⟩ := own_built K la n hn
  cases hb.symm.trans h1
  exact I
theorem own_bld_congr {K K' : Nat → Int64} {la : Int32} : ∀ n, n ≤ 3 → (∀ j, j < n → K j = K' j) → own_bld K la n = own_bld K' la n := by
  intro n
  induction n with
  | zero => intro _ _; rfl
  | succ n ih =>
    intro hn hK
    obtain ⟨S, ixn, la', hb, I⟩ := own_built K la n (by omega)
    obtain ⟨t, ht, hs⟩ := I.find (by omega) (K n)
    have hb' := hb
    rw [ih (by omega) (fun j hj => hK j (by omega))] at hb'
    have hs' : own_sl K' S (K' n) 16 (own_h (K' n)) = some t := by
      rw [← hK n (by omega), ← own_sl_congr I.1 (fun j hj => hK j (by omega))]
      exact hs
    show (own_bld K la n).bind (fun σ => own_ins K σ n) = (own_bld K' la n).bind (fun σ => own_ins K' σ n)
    rw [hb, hb']
    show own_ins K (S, ixn, la') n = own_ins K' (S, ixn, la') n
    rw [own_ins_eq K S ixn la' n t hs, own_ins_eq K' S ixn la' n t hs']
/-- the last key: a slot taken, or found -/
theorem own_bld_last {K : Nat → Int64} {la : Int32} {n : Nat} (hn : n < 3) {S' : Nat → Int32} {ix' : Nat} {la' : Int32} (hb : own_bld K la (n + 1) = some (S', ix', la')) :
    ∃ S ixn la1 t, own_bld K la n = some (S, ixn, la1) ∧ t < 16 ∧ own_sl K S (K n) 16 (own_h (K n)) = some t ∧ ((S t = 0 ∧ S' = own_set S t (Int32.ofNat (n + 1)) ∧ ix' = ixn + 1 ∧ la' = Int32.ofNat t) ∨ (¬ S t = 0 ∧ S' = S ∧ ix' = ixn ∧ la' = -1)) := by
  obtain ⟨S, ixn, la1, h1, I⟩ := own_built K la n (by omega)
  obtain ⟨t, ht, hs⟩ := I.find (by omega) (K n)
  refine ⟨S, ixn, la1, t, h1, ht, hs, ?_⟩
  have e : (own_bld K la n).bind (fun σ => own_ins K σ n) = some (S', ix', la') := hb
  rw [h1] at e
  have e2 : own_ins K (S, ixn, la1) n = some (S', ix', la') := e
  rw [own_ins_eq K S ixn la1 n t hs] at e2
  by_cases q : S t = 0
  · simp only [if_pos q] at e2
    cases e2
    exact Or.inl ⟨q, rfl, rfl, rfl⟩
  · simp only [if_neg q] at e2
    cases e2
    exact Or.inr ⟨q, rfl, rfl, rfl⟩
theorem own_setset {S : Nat → Int32} {t : Nat} {v : Int32} (h : S t = 0) : own_set (own_set S t v) t 0 = S := by
  funext j
  unfold own_set
  by_cases q : j = t
  · rw [if_pos q, q, h]
  · rw [if_neg q, if_neg q]
/-- one turn of buildIndex -/
theorem own_bnext {K : Nat → Int64} {la : Int32} {j : Nat} {S : Nat → Int32} {ixn : Nat} {la' : Int32} {t : Nat} (hb : own_bld K la j = some (S, ixn, la')) (hm : own_sl K S (K j) 16 (own_h (K j)) = some t) (A : (Nat → Int32) → Int32 → Int32 → Prop)
    (hif : if S t = (0 : Int32) then A (own_set S t (Int32.ofNat (j + 1))) (Int32.ofNat ixn + (1 : Int32)) (Int32.ofNat t) else A S (Int32.ofNat ixn) (-1 : Int32)) :
    ∃ S2 ix2 la2, own_bld K la (j + 1) = some (S2, ix2, la2) ∧ A S2 (Int32.ofNat ix2) la2 := by
  have e : own_bld K la (j + 1) = own_ins K (S, ixn, la') j := by
    show (own_bld K la j).bind (fun σ => own_ins K σ j) = _
    rw [hb]; rfl
  rw [own_ins_eq K S ixn la' j t hm] at e
  refine ⟨_, _, _, e, ?_⟩
  by_cases q : S t = 0
  · simp only [if_pos q] at hif ⊢
    rw [own_cnt] at hif
    exact hif
  · simp only [if_neg q] at hif ⊢
    exact hif

theorem own_W.count {Z : State} {h : Heap} {n0 : Nat} {w kA sA dA pA : Addr} {sv : Value} {K Sz : Nat → Int64} {D : Nat → Int32} {cnt : Nat} {fs : Int64} {mx am ix la : Int32} (B : own_W Z h n0 w kA sA dA pA sv K Sz D cnt fs mx am ix la) : Fld Z h w "com/example/strati/strati/sim/WriteBuffer" "count" "I" (.int (Int32.ofNat cnt)) := B.2.2.2.2.2.1
theorem own_room16 {cnt : Nat} (h : cnt ≤ 3) : ¬ (16 : Int32) < (2 : Int32) * Int32.ofNat cnt := by
  have hc : cnt = 0 ∨ cnt = 1 ∨ cnt = 2 ∨ cnt = 3 := by omega
  rcases hc with rfl | rfl | rfl | rfl <;> decide
theorem own_ix8 {ixn : Nat} (h : ixn ≤ 3) : ¬ (16 : Int32) < (2 : Int32) * (Int32.ofNat ixn + (1 : Int32)) := by
  have hc : ixn = 0 ∨ ixn = 1 ∨ ixn = 2 ∨ ixn = 3 := by omega
  rcases hc with rfl | rfl | rfl | rfl <;> decide
theorem own_kt2 {h0 : Heap} {a b : Addr} (q : h0.size ≤ b) : ∀ x ∈ [a, b], x ∈ [a] ∨ h0.size ≤ x := fun x hx => by
  rcases List.mem_cons.mp hx with rfl | hx
  · exact Or.inl List.mem_cons_self
  · cases List.mem_singleton.mp hx; exact Or.inr q
theorem own_bi1 {b : Bool} {x : Int32} (h : ¬ x = 0 ↔ b = true) (q : ¬ x = 0) : (1 : Int32) = own_bi b := by rw [h.mp q]; rfl
theorem own_bi0 {b : Bool} {x : Int32} (h : ¬ x = 0 ↔ b = true) (q : x = 0) : (0 : Int32) = own_bi b := by
  have : ¬ b = true := fun e => (h.mpr e) q
  rw [Bool.not_eq_true] at this
  rw [this]; rfl
theorem own_c16 {cnt : Nat} (h : cnt < 16) : ¬ Int32.ofNat cnt = (16 : Int32) := by
  intro q
  have e := own_toI (n := cnt) (by omega)
  rw [q] at e
  have z : (16 : Int32).toInt = 16 := rfl
  omega
theorem own_c0 {cnt : Nat} (h : cnt < 16) (q : Int32.ofNat cnt = (0 : Int32)) : cnt = 0 := by
  have e := own_toI (n := cnt) (by omega)
  rw [q] at e
  have z : (0 : Int32).toInt = 0 := rfl
  omega
theorem own_fit1 {x : Int32} (h : x = 0 ∨ x = 1) : narrow .boolean (.int x) = .int x := by rcases h with rfl | rfl <;> rfl
theorem own_fit2 {x : Int32} (h : x = 0 ∨ x = 1) : fits .boolean (.int x) = true := by rcases h with rfl | rfl <;> rfl
theorem own_orb {x y : Int32} (h : x = 0 ∨ x = 1) (h' : y = 0 ∨ y = 1) : (x ||| y) = 0 ∨ (x ||| y) = 1 := by
  rcases h with rfl | rfl <;> rcases h' with rfl | rfl <;> decide
theorem own_cntp (n : Nat) : Int32.ofNat (n + 1) - (1 : Int32) = Int32.ofNat n := by rw [← own_cnt, Int32.add_sub_cancel]

theorem own_kt5 {h0 : Heap} {a b c d e : Addr} : ∀ x ∈ [a, e], x ∈ [a, b, c, d, e] ∨ h0.size ≤ x := fun x hx => by
  rcases List.mem_cons.mp hx with rfl | hx
  · exact Or.inl List.mem_cons_self
  · cases List.mem_singleton.mp hx
    exact Or.inl (by simp)
theorem own_or0 (d : Int32) : (0 : Int32) ||| d = d := Int32.zero_or

theorem own_la0 {tt : Nat} (h : tt < 16) : ¬ Int32.ofNat tt < (0 : Int32) := by rw [own_lt32, own_toI (by omega), Int32.toInt_zero]; omega
theorem d14_0 : decode prog_67_method_9_code 0 = .ok (.aload_n 0, 1) := by decide +kernel
theorem d14_1 : decode prog_67_method_9_code 1 = .ok (.getfield 9, 3) := by decide +kernel
theorem d14_4 : decode prog_67_method_9_code 4 = .ok (.iload_n 1, 1) := by decide +kernel
theorem d14_5 : decode prog_67_method_9_code 5 = .ok (.laload, 1) := by decide +kernel
theorem d14_6 : decode prog_67_method_9_code 6 = .ok (.lstore_n 2, 1) := by decide +kernel
theorem d14_7 : decode prog_67_method_9_code 7 = .ok (.aload_n 0, 1) := by decide +kernel
theorem d14_8 : decode prog_67_method_9_code 8 = .ok (.aload_n 0, 1) := by decide +kernel
theorem d14_9 : decode prog_67_method_9_code 9 = .ok (.getfield 55, 3) := by decide +kernel
theorem d14_12 : decode prog_67_method_9_code 12 = .ok (.lload_n 2, 1) := by decide +kernel
theorem d14_13 : decode prog_67_method_9_code 13 = .ok (.invokevirtual 68, 3) := by decide +kernel
theorem d14_16 : decode prog_67_method_9_code 16 = .ok (.istore 4, 2) := by decide +kernel
theorem d14_18 : decode prog_67_method_9_code 18 = .ok (.aload_n 0, 1) := by decide +kernel
theorem d14_19 : decode prog_67_method_9_code 19 = .ok (.iconst (-1), 1) := by decide +kernel
theorem d14_20 : decode prog_67_method_9_code 20 = .ok (.putfield 24, 3) := by decide +kernel
theorem d14_23 : decode prog_67_method_9_code 23 = .ok (.aload_n 0, 1) := by decide +kernel
theorem d14_24 : decode prog_67_method_9_code 24 = .ok (.getfield 55, 3) := by decide +kernel
theorem d14_27 : decode prog_67_method_9_code 27 = .ok (.iload 4, 2) := by decide +kernel
theorem d14_29 : decode prog_67_method_9_code 29 = .ok (.iaload, 1) := by decide +kernel
theorem d14_30 : decode prog_67_method_9_code 30 = .ok (.ifCond .eq 4, 3) := by decide +kernel
theorem d14_33 : decode prog_67_method_9_code 33 = .ok (.return_, 1) := by decide +kernel
theorem d14_34 : decode prog_67_method_9_code 34 = .ok (.iconst 2, 1) := by decide +kernel
theorem d14_35 : decode prog_67_method_9_code 35 = .ok (.aload_n 0, 1) := by decide +kernel
theorem d14_36 : decode prog_67_method_9_code 36 = .ok (.getfield 62, 3) := by decide +kernel
theorem d14_39 : decode prog_67_method_9_code 39 = .ok (.iconst 1, 1) := by decide +kernel
theorem d14_40 : decode prog_67_method_9_code 40 = .ok (.iadd, 1) := by decide +kernel
theorem d14_41 : decode prog_67_method_9_code 41 = .ok (.imul, 1) := by decide +kernel
theorem d14_42 : decode prog_67_method_9_code 42 = .ok (.aload_n 0, 1) := by decide +kernel
theorem d14_43 : decode prog_67_method_9_code 43 = .ok (.getfield 55, 3) := by decide +kernel
theorem d14_46 : decode prog_67_method_9_code 46 = .ok (.arraylength, 1) := by decide +kernel
theorem d14_47 : decode prog_67_method_9_code 47 = .ok (.if_icmp .le 19, 3) := by decide +kernel
theorem d14_50 : decode prog_67_method_9_code 50 = .ok (.aload_n 0, 1) := by decide +kernel
theorem d14_51 : decode prog_67_method_9_code 51 = .ok (.iload_n 1, 1) := by decide +kernel
theorem d14_52 : decode prog_67_method_9_code 52 = .ok (.invokevirtual 84, 3) := by decide +kernel
theorem d14_55 : decode prog_67_method_9_code 55 = .ok (.aload_n 0, 1) := by decide +kernel
theorem d14_56 : decode prog_67_method_9_code 56 = .ok (.aload_n 0, 1) := by decide +kernel
theorem d14_57 : decode prog_67_method_9_code 57 = .ok (.getfield 55, 3) := by decide +kernel
theorem d14_60 : decode prog_67_method_9_code 60 = .ok (.lload_n 2, 1) := by decide +kernel
theorem d14_61 : decode prog_67_method_9_code 61 = .ok (.invokevirtual 68, 3) := by decide +kernel
theorem d14_64 : decode prog_67_method_9_code 64 = .ok (.istore 4, 2) := by decide +kernel
theorem d14_66 : decode prog_67_method_9_code 66 = .ok (.aload_n 0, 1) := by decide +kernel
theorem d14_67 : decode prog_67_method_9_code 67 = .ok (.getfield 55, 3) := by decide +kernel
theorem d14_70 : decode prog_67_method_9_code 70 = .ok (.iload 4, 2) := by decide +kernel
theorem d14_72 : decode prog_67_method_9_code 72 = .ok (.iload_n 1, 1) := by decide +kernel
theorem d14_73 : decode prog_67_method_9_code 73 = .ok (.iconst 1, 1) := by decide +kernel
theorem d14_74 : decode prog_67_method_9_code 74 = .ok (.iadd, 1) := by decide +kernel
theorem d14_75 : decode prog_67_method_9_code 75 = .ok (.iastore, 1) := by decide +kernel
theorem d14_76 : decode prog_67_method_9_code 76 = .ok (.aload_n 0, 1) := by decide +kernel
theorem d14_77 : decode prog_67_method_9_code 77 = .ok (.dup, 1) := by decide +kernel
theorem d14_78 : decode prog_67_method_9_code 78 = .ok (.getfield 62, 3) := by decide +kernel
theorem d14_81 : decode prog_67_method_9_code 81 = .ok (.iconst 1, 1) := by decide +kernel
theorem d14_82 : decode prog_67_method_9_code 82 = .ok (.iadd, 1) := by decide +kernel
theorem d14_83 : decode prog_67_method_9_code 83 = .ok (.putfield 62, 3) := by decide +kernel
theorem d14_86 : decode prog_67_method_9_code 86 = .ok (.aload_n 0, 1) := by decide +kernel
theorem d14_87 : decode prog_67_method_9_code 87 = .ok (.iload 4, 2) := by decide +kernel
theorem d14_89 : decode prog_67_method_9_code 89 = .ok (.putfield 24, 3) := by decide +kernel
theorem d14_92 : decode prog_67_method_9_code 92 = .ok (.return_, 1) := by decide +kernel
theorem pn_14 : plainName "com/example/strati/strati/sim/WriteBuffer" = true := by first | (simp [plainName, overriddenIn]; done) | decide +kernel
theorem pd_14 : parseMethodDescriptor "(I)V" = some ⟨[.int], none⟩ := by decide +kernel
theorem ef_14 (m : MethodId) (x0 : Addr) (x1 : Int32) : entryFrame m #[(.ref x0), (.int x1)] 5 = mkF m 0 #[.val (.ref x0), .val (.int x1), .unset, .unset, .unset] [] := by first | (simp [entryFrame, mkF, argsToLocals, Value.category]; done) | rfl
def own_F14 (Z : State) (x0 : Addr) (x1 : Int32) (kA sA dA pA : Addr) (K Sz : Nat → Int64) (D : Nat → Int32) (cnt : Nat) (fs : Int64) (mx am la : Int32) (ix : Int32) (iA : Addr) (S : Nat → Int32) (pp tt : Nat) (n0 : Nat) (h0 : Heap) (v : Option Value) (h : Heap) (L : List Loc) : Prop := v = none ∧ Fr n0 L ∧ Keep h0 h [x0, iA] ∧ (if S tt = (0 : Int32) then own_W Z h n0 x0 kA sA dA pA (.ref iA) K Sz D cnt fs mx am (ix + (1 : Int32)) (Int32.ofNat tt) ∧ own_I Z h n0 x0 kA sA dA pA iA (own_set S tt (Int32.ofNat (pp + 1))) else own_W Z h n0 x0 kA sA dA pA (.ref iA) K Sz D cnt fs mx am ix (-1 : Int32) ∧ own_I Z h n0 x0 kA sA dA pA iA S)
set_option maxRecDepth 65536 in
set_option maxHeartbeats 40000000 in
theorem own_m14 (l : Launch) (Z : State) (a0 : Array Value) (hw : ∀ d ∈ tables_1, d.before a0 Z = true) (ws : List Jvm.Cond) (x0 : Addr) (x1 : Int32) (kA sA dA pA : Addr) (K Sz : Nat → Int64) (D : Nat → Int32) (cnt : Nat) (fs : Int64) (mx am la : Int32) (ix : Int32) (iA : Addr) (S : Nat → Int32) (pp tt : Nat) (n0 : Nat) (h0 : Heap)  (B : own_W Z h0 n0 x0 kA sA dA pA (.ref iA) K Sz D cnt fs mx am ix la) (I : own_I Z h0 n0 x0 kA sA dA pA iA S) (hS : own_OK S) (hp : x1.toInt = (pp : Nat)) (hp16 : pp < 16) (hm : own_sl K S (K pp) 16 (own_h (K pp)) = some tt) (htt : tt < 16) (hix : ¬ (16 : Int32) < (2 : Int32) * (ix + (1 : Int32))) :
    MetFree l (⟨"com/example/strati/strati/sim/WriteBuffer", "index", "(I)V"⟩ : MethodName) (head1 (Jvm.Cond.code (⟨"com/example/strati/strati/sim/WriteBuffer", "index", "(I)V"⟩ : MethodName) prog_67_method_9_code 5 none :: ws) ({ frames := 2, cells := 0, slots := 0, locals := 30 } : Room)) (fun a U => a = #[(.ref x0), (.int x1)] ∧ Z.Warmed39 U.vm ∧ U.heap = h0) (fun _ _ _ _ _ => True) (fun _ U o U' => ∃ v L, o = .returned v ∧ own_F14 Z x0 x1 kA sA dA pA K Sz D cnt fs mx am la ix iA S pp tt n0 h0 v U'.heap L ∧ FrameEnd U o U' L ({ frames := 2, cells := 0, slots := 0, locals := 30 } : Room).cells ({ frames := 2, cells := 0, slots := 0, locals := 30 } : Room).slots) := by
  refine MetFree.of_bodySF (plainFor_of_name pn_14) hisR ?_
  intro p e s m args below meth c s₁ Bd hml0 hP hK
  obtain ⟨rfl, hZ, hh⟩ := hP
  have hx := Bd.exec
  have hby := Bd.bytes
  have hml : c.maxLocals = 5 := hml0
  have hown : s.vm.findClass "com/example/strati/strati/sim/WriteBuffer" = some m.cls := findClass_of_methodNamed Bd.named
  have hnm := (name_of_methodNamed Bd.named Bd.method).1
  have X0 : Stand p l e ({ frames := 2, cells := 0, slots := 0, locals := 30 } : Room) s m #[(.ref x0), (.int x1)] below meth c s₁ [] 0 0 := Stand.of_body Bd
  have e0 : s₁.heap = h0 := by rw [← hh, Bd.state]; rfl
  obtain ⟨E0, P0, P1, P2, P3, P4, P5, P6, P7, P8, P9, P10, R0, R1, R2, R3, n1, n2, n3, n4, n5, n6, n7, n8, n9, n10, gw0, gw1, gw2, gw3, hmx, ham⟩ := B
  obtain ⟨RI, m1, m2, m3, m4, m5, gi⟩ := I
  have Z0 : n0 ≤ h0.size := Nat.le_trans gw0 (Nat.le_of_lt E0.lt)
  have N0 := Fr.nil n0
  have K0 : Keep h0 h0 [x0, iA] := Keep.refl h0 [x0, iA]
  have hgo : own_Goes p e below s (own_F14 Z x0 x1 kA sA dA pA K Sz D cnt fs mx am la ix iA S pp tt n0 h0) 0 0 (s₁.setTop (mkF m 0 #[.val (.ref x0), .val (.int x1), .unset, .unset, .unset] [])) := by
    refine own_Goes.step (fun tq kq => XS.aloadN X0.here hx rfl (hb hby d14_0) rfl rfl kq) ?_
    show own_Goes _ _ _ _ _ _ _ (s₁.setTop (mkF m 1 #[.val (.ref x0), .val (.int x1), .unset, .unset, .unset] [(.ref x0)]))
    obtain ⟨T1, X1, e1, st1⟩ := getF X0 hx hZ hown (host := "") (Or.inl (own_at hw 10 rfl)) Via.refl e0 P0 (g := (mkF m 1 #[.val (.ref x0), .val (.int x1), .unset, .unset, .unset] [(.ref x0)])) rfl rfl (hb hby d14_1)
    refine own_Goes.step st1 ?_
    show own_Goes _ _ _ _ _ _ _ (T1.setTop (mkF m 4 #[.val (.ref x0), .val (.int x1), .unset, .unset, .unset] [(.ref kA)]))
    refine own_Goes.step (fun tq kq => XS.iloadN X1.here hx rfl (hb hby d14_4) rfl kq) ?_
    show own_Goes _ _ _ _ _ _ _ (T1.setTop (mkF m 5 #[.val (.ref x0), .val (.int x1), .unset, .unset, .unset] [(.int x1), (.ref kA)]))
    refine own_Goes.step (own_lald X1 hx hZ e1 R0 (i := pp) hp hp16 (v := (.long (K pp))) rfl (g := (mkF m 5 #[.val (.ref x0), .val (.int x1), .unset, .unset, .unset] [(.int x1), (.ref kA)])) rfl rfl (hb hby d14_5)) ?_
    show own_Goes _ _ _ _ _ _ _ (T1.setTop (mkF m 6 #[.val (.ref x0), .val (.int x1), .unset, .unset, .unset] [(.long (K pp))]))
    refine own_Goes.step (fun tq kq => XT.lstoreN X1.here hx rfl (hb hby d14_6) rfl (l' := #[.val (.ref x0), .val (.int x1), .val (.long (K pp)), .second, .unset]) rfl kq) ?_
    show own_Goes _ _ _ _ _ _ _ (T1.setTop (mkF m 7 #[.val (.ref x0), .val (.int x1), .val (.long (K pp)), .second, .unset] []))
    refine own_Goes.step (fun tq kq => XS.aloadN X1.here hx rfl (hb hby d14_7) rfl rfl kq) ?_
    show own_Goes _ _ _ _ _ _ _ (T1.setTop (mkF m 8 #[.val (.ref x0), .val (.int x1), .val (.long (K pp)), .second, .unset] [(.ref x0)]))
    refine own_Goes.step (fun tq kq => XS.aloadN X1.here hx rfl (hb hby d14_8) rfl rfl kq) ?_
    show own_Goes _ _ _ _ _ _ _ (T1.setTop (mkF m 9 #[.val (.ref x0), .val (.int x1), .val (.long (K pp)), .second, .unset] [(.ref x0), (.ref x0)]))
    obtain ⟨T3, X3, e3, st3⟩ := getF X1 hx hZ hown (host := "") (Or.inl (own_at hw 61 rfl)) Via.refl e1 P8 (g := (mkF m 9 #[.val (.ref x0), .val (.int x1), .val (.long (K pp)), .second, .unset] [(.ref x0), (.ref x0)])) rfl rfl (hb hby d14_9)
    refine own_Goes.step st3 ?_
    show own_Goes _ _ _ _ _ _ _ (T3.setTop (mkF m 12 #[.val (.ref x0), .val (.int x1), .val (.long (K pp)), .second, .unset] [(.ref iA), (.ref x0)]))
    refine own_Goes.step (fun tq kq => XT.lloadN X3.here hx rfl (hb hby d14_12) rfl kq) ?_
    show own_Goes _ _ _ _ _ _ _ (T3.setTop (mkF m 13 #[.val (.ref x0), .val (.int x1), .val (.long (K pp)), .second, .unset] [(.long (K pp)), (.ref iA), (.ref x0)]))
    obtain ⟨w4, T4, L4, q4, Y4, st4⟩ := own_priv X3 hx hZ e3 E0 hown (own_at hw 84 rfl) (own_at hw 86 rfl) (own_at hw 1 rfl) (own_at hw 85 rfl) (own_at hw 2 rfl) (own_at hw 87 rfl) (by decide) (own_m12 l Z a0 hw [] x0 iA (K pp) kA K S tt n0 h0 P0 R0 RI hS hm) (by decide) (W := 0) (by decide) (by decide) (by decide) (g := (mkF m 13 #[.val (.ref x0), .val (.int x1), .val (.long (K pp)), .second, .unset] [(.long (K pp)), (.ref iA), (.ref x0)])) rfl (by rw [hml]; rfl) (argsL := [(.ref iA), (.long (K pp))]) (rest := []) (lenOf pd_12 rfl) rfl (by show 2 * 0 + _ ≤ _; exact Nat.le_of_eq rfl) (hb hby d14_13)
    obtain ⟨e4, X4⟩ := own_clean q4 Y4 rfl rfl
    obtain ⟨rfl, -, -⟩ := q4
    refine own_Goes.step st4 ?_
    show own_Goes _ _ _ _ _ _ _ (T4.setTop (mkF m 16 #[.val (.ref x0), .val (.int x1), .val (.long (K pp)), .second, .unset] [(.int (Int32.ofNat tt))]))
    refine own_Goes.step (fun tq kq => XS.istore X4.here hx rfl (hb hby d14_16) rfl (l' := #[.val (.ref x0), .val (.int x1), .val (.long (K pp)), .second, .val (.int (Int32.ofNat tt))]) rfl kq) ?_
    show own_Goes _ _ _ _ _ _ _ (T4.setTop (mkF m 18 #[.val (.ref x0), .val (.int x1), .val (.long (K pp)), .second, .val (.int (Int32.ofNat tt))] []))
    refine own_Goes.step (fun tq kq => XS.aloadN X4.here hx rfl (hb hby d14_18) rfl rfl kq) ?_
    show own_Goes _ _ _ _ _ _ _ (T4.setTop (mkF m 19 #[.val (.ref x0), .val (.int x1), .val (.long (K pp)), .second, .val (.int (Int32.ofNat tt))] [(.ref x0)]))
    refine own_Goes.step (fun tq kq => XT.iconstV X4.here hx rfl (-1 : Int32) (hb hby d14_19) (by decide) kq) ?_
    show own_Goes _ _ _ _ _ _ _ (T4.setTop (mkF m 20 #[.val (.ref x0), .val (.int x1), .val (.long (K pp)), .second, .val (.int (Int32.ofNat tt))] [(.int (-1 : Int32)), (.ref x0)]))
    obtain ⟨T5, h5, X5, e5, W5, st5⟩ := putF X4 hx hZ hown (host := "") (Or.inl (own_at hw 20 rfl)) Via.refl e4 (v := (.int (-1 : Int32))) P10 E0 (Or.inl (own_at hw 21 rfl)) (own_at hw 1 rfl) (ty := .int) (by decide) rfl rfl (g := (mkF m 20 #[.val (.ref x0), .val (.int x1), .val (.long (K pp)), .second, .val (.int (Int32.ofNat tt))] [(.int (-1 : Int32)), (.ref x0)])) rfl rfl (hb hby d14_20)
    refine own_Goes.step st5 ?_
    have f6 := E0.wr W5
    have f7 := P0.other W5 (Or.inr (slot_ne (Or.inl (own_at hw 11 rfl)) (Or.inl (own_at hw 21 rfl)) (by decide) (t := (.array .long)) (t' := .int) (by decide) (by decide)))
    have f8 := P1.other W5 (Or.inr (slot_ne (Or.inl (own_at hw 13 rfl)) (Or.inl (own_at hw 21 rfl)) (by decide) (t := (.array .long)) (t' := .int) (by decide) (by decide)))
    have f9 := P2.other W5 (Or.inr (slot_ne (Or.inl (own_at hw 16 rfl)) (Or.inl (own_at hw 21 rfl)) (by decide) (t := (.array .boolean)) (t' := .int) (by decide) (by decide)))
    have f10 := P3.other W5 (Or.inr (slot_ne (Or.inl (own_at hw 19 rfl)) (Or.inl (own_at hw 21 rfl)) (by decide) (t := (.array .int)) (t' := .int) (by decide) (by decide)))
    have f11 := P4.other W5 (Or.inr (slot_ne (Or.inl (own_at hw 44 rfl)) (Or.inl (own_at hw 21 rfl)) (by decide) (t := .int) (t' := .int) (by decide) (by decide)))
    have f12 := P5.other W5 (Or.inr (slot_ne (Or.inl (own_at hw 51 rfl)) (Or.inl (own_at hw 21 rfl)) (by decide) (t := .long) (t' := .int) (by decide) (by decide)))
    have f13 := P6.other W5 (Or.inr (slot_ne (Or.inl (own_at hw 53 rfl)) (Or.inl (own_at hw 21 rfl)) (by decide) (t := .boolean) (t' := .int) (by decide) (by decide)))
    have f14 := P7.other W5 (Or.inr (slot_ne (Or.inl (own_at hw 55 rfl)) (Or.inl (own_at hw 21 rfl)) (by decide) (t := .boolean) (t' := .int) (by decide) (by decide)))
    have f15 := P8.other W5 (Or.inr (slot_ne (Or.inl (own_at hw 62 rfl)) (Or.inl (own_at hw 21 rfl)) (by decide) (t := (.array .int)) (t' := .int) (by decide) (by decide)))
    have f16 := P9.other W5 (Or.inr (slot_ne (Or.inl (own_at hw 69 rfl)) (Or.inl (own_at hw 21 rfl)) (by decide) (t := .int) (t' := .int) (by decide) (by decide)))
    have f17 := P10.same W5
    have f18 := R0.other W5 (Ne.symm n1)
    have f19 := R1.other W5 (Ne.symm n2)
    have f20 := R2.other W5 (Ne.symm n3)
    have f21 := R3.other W5 (Ne.symm n4)
    have f22 := RI.other W5 (Ne.symm m1)
    have K23 := K0.wr W5 (Or.inl (List.mem_of_getElem? (i := 0) rfl))
    have N24 := Fr.snoc X5 N0 gw0
    have Z25 : n0 ≤ h5.size := Nat.le_trans Z0 (Keep.of_wr W5).1
    show own_Goes _ _ _ _ _ _ _ (T5.setTop (mkF m 23 #[.val (.ref x0), .val (.int x1), .val (.long (K pp)), .second, .val (.int (Int32.ofNat tt))] []))
    refine own_Goes.step (fun tq kq => XS.aloadN X5.here hx rfl (hb hby d14_23) rfl rfl kq) ?_
    show own_Goes _ _ _ _ _ _ _ (T5.setTop (mkF m 24 #[.val (.ref x0), .val (.int x1), .val (.long (K pp)), .second, .val (.int (Int32.ofNat tt))] [(.ref x0)]))
    obtain ⟨T26, X26, e26, st26⟩ := getF X5 hx hZ hown (host := "") (Or.inl (own_at hw 61 rfl)) Via.refl e5 f15 (g := (mkF m 24 #[.val (.ref x0), .val (.int x1), .val (.long (K pp)), .second, .val (.int (Int32.ofNat tt))] [(.ref x0)])) rfl rfl (hb hby d14_24)
    refine own_Goes.step st26 ?_
    show own_Goes _ _ _ _ _ _ _ (T26.setTop (mkF m 27 #[.val (.ref x0), .val (.int x1), .val (.long (K pp)), .second, .val (.int (Int32.ofNat tt))] [(.ref iA)]))
    refine own_Goes.step (fun tq kq => XS.iload X26.here hx rfl (hb hby d14_27) rfl kq) ?_
    show own_Goes _ _ _ _ _ _ _ (T26.setTop (mkF m 29 #[.val (.ref x0), .val (.int x1), .val (.long (K pp)), .second, .val (.int (Int32.ofNat tt))] [(.int (Int32.ofNat tt)), (.ref iA)]))
    refine own_Goes.step (own_iald X26 hx hZ e26 f22 (i := tt) (own_toI (by omega)) htt (v := (.int (S tt))) rfl (g := (mkF m 29 #[.val (.ref x0), .val (.int x1), .val (.long (K pp)), .second, .val (.int (Int32.ofNat tt))] [(.int (Int32.ofNat tt)), (.ref iA)])) rfl rfl (hb hby d14_29)) ?_
    show own_Goes _ _ _ _ _ _ _ (T26.setTop (mkF m 30 #[.val (.ref x0), .val (.int x1), .val (.long (K pp)), .second, .val (.int (Int32.ofNat tt))] [(.int (S tt))]))
    by_cases hc28 : (S tt) = (0 : Int32)
    · refine own_Goes.step (fun tq kq => XS.ifYes X26.here hx rfl (pc0 := 30) (pc' := 34) rfl (hb hby d14_30) rfl (XT.i0_eq_t hc28) (by decide) (by decide) kq) ?_
      show own_Goes _ _ _ _ _ _ _ (T26.setTop (mkF m 34 #[.val (.ref x0), .val (.int x1), .val (.long (K pp)), .second, .val (.int (Int32.ofNat tt))] []))
      refine own_Goes.step (fun tq kq => XT.iconstV X26.here hx rfl (2 : Int32) (hb hby d14_34) (by decide) kq) ?_
      show own_Goes _ _ _ _ _ _ _ (T26.setTop (mkF m 35 #[.val (.ref x0), .val (.int x1), .val (.long (K pp)), .second, .val (.int (Int32.ofNat tt))] [(.int (2 : Int32))]))
      refine own_Goes.step (fun tq kq => XS.aloadN X26.here hx rfl (hb hby d14_35) rfl rfl kq) ?_
      show own_Goes _ _ _ _ _ _ _ (T26.setTop (mkF m 36 #[.val (.ref x0), .val (.int x1), .val (.long (K pp)), .second, .val (.int (Int32.ofNat tt))] [(.ref x0), (.int (2 : Int32))]))
      obtain ⟨T29, X29, e29, st29⟩ := getF X26 hx hZ hown (host := "") (Or.inl (own_at hw 68 rfl)) Via.refl e26 f16 (g := (mkF m 36 #[.val (.ref x0), .val (.int x1), .val (.long (K pp)), .second, .val (.int (Int32.ofNat tt))] [(.ref x0), (.int (2 : Int32))])) rfl rfl (hb hby d14_36)
      refine own_Goes.step st29 ?_
      show own_Goes _ _ _ _ _ _ _ (T29.setTop (mkF m 39 #[.val (.ref x0), .val (.int x1), .val (.long (K pp)), .second, .val (.int (Int32.ofNat tt))] [(.int ix), (.int (2 : Int32))]))
      refine own_Goes.step (fun tq kq => XT.iconstV X29.here hx rfl (1 : Int32) (hb hby d14_39) (by decide) kq) ?_
      show own_Goes _ _ _ _ _ _ _ (T29.setTop (mkF m 40 #[.val (.ref x0), .val (.int x1), .val (.long (K pp)), .second, .val (.int (Int32.ofNat tt))] [(.int (1 : Int32)), (.int ix), (.int (2 : Int32))]))
      refine own_Goes.step (fun tq kq => XS.iadd X29.here hx rfl (hb hby d14_40) rfl kq) ?_
      show own_Goes _ _ _ _ _ _ _ (T29.setTop (mkF m 41 #[.val (.ref x0), .val (.int x1), .val (.long (K pp)), .second, .val (.int (Int32.ofNat tt))] [(.int (ix + (1 : Int32))), (.int (2 : Int32))]))
      refine own_Goes.step (fun tq kq => XS.imul X29.here hx rfl (hb hby d14_41) rfl kq) ?_
      show own_Goes _ _ _ _ _ _ _ (T29.setTop (mkF m 42 #[.val (.ref x0), .val (.int x1), .val (.long (K pp)), .second, .val (.int (Int32.ofNat tt))] [(.int ((2 : Int32) * (ix + (1 : Int32))))]))
      refine own_Goes.step (fun tq kq => XS.aloadN X29.here hx rfl (hb hby d14_42) rfl rfl kq) ?_
      show own_Goes _ _ _ _ _ _ _ (T29.setTop (mkF m 43 #[.val (.ref x0), .val (.int x1), .val (.long (K pp)), .second, .val (.int (Int32.ofNat tt))] [(.ref x0), (.int ((2 : Int32) * (ix + (1 : Int32))))]))
      obtain ⟨T30, X30, e30, st30⟩ := getF X29 hx hZ hown (host := "") (Or.inl (own_at hw 61 rfl)) Via.refl e29 f15 (g := (mkF m 43 #[.val (.ref x0), .val (.int x1), .val (.long (K pp)), .second, .val (.int (Int32.ofNat tt))] [(.ref x0), (.int ((2 : Int32) * (ix + (1 : Int32))))])) rfl rfl (hb hby d14_43)
      refine own_Goes.step st30 ?_
      show own_Goes _ _ _ _ _ _ _ (T30.setTop (mkF m 46 #[.val (.ref x0), .val (.int x1), .val (.long (K pp)), .second, .val (.int (Int32.ofNat tt))] [(.ref iA), (.int ((2 : Int32) * (ix + (1 : Int32))))]))
      refine own_Goes.step (own_alen X30 hx hZ e30 f22 (z := (16 : Int32)) (by decide) (g := (mkF m 46 #[.val (.ref x0), .val (.int x1), .val (.long (K pp)), .second, .val (.int (Int32.ofNat tt))] [(.ref iA), (.int ((2 : Int32) * (ix + (1 : Int32))))])) rfl rfl (hb hby d14_46)) ?_
      show own_Goes _ _ _ _ _ _ _ (T30.setTop (mkF m 47 #[.val (.ref x0), .val (.int x1), .val (.long (K pp)), .second, .val (.int (Int32.ofNat tt))] [(.int (16 : Int32)), (.int ((2 : Int32) * (ix + (1 : Int32))))]))
      refine own_Goes.step (fun tq kq => XS.icmpYes X30.here hx rfl (pc0 := 47) (pc' := 66) rfl (hb hby d14_47) rfl (XT.ii_le_t (hix)) (by decide) (by decide) kq) ?_
      show own_Goes _ _ _ _ _ _ _ (T30.setTop (mkF m 66 #[.val (.ref x0), .val (.int x1), .val (.long (K pp)), .second, .val (.int (Int32.ofNat tt))] []))
      refine own_Goes.step (fun tq kq => XS.aloadN X30.here hx rfl (hb hby d14_66) rfl rfl kq) ?_
      show own_Goes _ _ _ _ _ _ _ (T30.setTop (mkF m 67 #[.val (.ref x0), .val (.int x1), .val (.long (K pp)), .second, .val (.int (Int32.ofNat tt))] [(.ref x0)]))
      obtain ⟨T32, X32, e32, st32⟩ := getF X30 hx hZ hown (host := "") (Or.inl (own_at hw 61 rfl)) Via.refl e30 f15 (g := (mkF m 67 #[.val (.ref x0), .val (.int x1), .val (.long (K pp)), .second, .val (.int (Int32.ofNat tt))] [(.ref x0)])) rfl rfl (hb hby d14_67)
      refine own_Goes.step st32 ?_
      show own_Goes _ _ _ _ _ _ _ (T32.setTop (mkF m 70 #[.val (.ref x0), .val (.int x1), .val (.long (K pp)), .second, .val (.int (Int32.ofNat tt))] [(.ref iA)]))
      refine own_Goes.step (fun tq kq => XS.iload X32.here hx rfl (hb hby d14_70) rfl kq) ?_
      show own_Goes _ _ _ _ _ _ _ (T32.setTop (mkF m 72 #[.val (.ref x0), .val (.int x1), .val (.long (K pp)), .second, .val (.int (Int32.ofNat tt))] [(.int (Int32.ofNat tt)), (.ref iA)]))
      refine own_Goes.step (fun tq kq => XS.iloadN X32.here hx rfl (hb hby d14_72) rfl kq) ?_
      show own_Goes _ _ _ _ _ _ _ (T32.setTop (mkF m 73 #[.val (.ref x0), .val (.int x1), .val (.long (K pp)), .second, .val (.int (Int32.ofNat tt))] [(.int x1), (.int (Int32.ofNat tt)), (.ref iA)]))
      refine own_Goes.step (fun tq kq => XT.iconstV X32.here hx rfl (1 : Int32) (hb hby d14_73) (by decide) kq) ?_
      show own_Goes _ _ _ _ _ _ _ (T32.setTop (mkF m 74 #[.val (.ref x0), .val (.int x1), .val (.long (K pp)), .second, .val (.int (Int32.ofNat tt))] [(.int (1 : Int32)), (.int x1), (.int (Int32.ofNat tt)), (.ref iA)]))
      refine own_Goes.step (fun tq kq => XS.iadd X32.here hx rfl (hb hby d14_74) rfl kq) ?_
      show own_Goes _ _ _ _ _ _ _ (T32.setTop (mkF m 75 #[.val (.ref x0), .val (.int x1), .val (.long (K pp)), .second, .val (.int (Int32.ofNat tt))] [(.int (x1 + (1 : Int32))), (.int (Int32.ofNat tt)), (.ref iA)]))
      obtain ⟨T33, h33, X33, e33, W33, st33⟩ := own_iast X32 hx hZ e32 f22 (i := tt) (own_toI (by omega)) htt (g := (mkF m 75 #[.val (.ref x0), .val (.int x1), .val (.long (K pp)), .second, .val (.int (Int32.ofNat tt))] [(.int (x1 + (1 : Int32))), (.int (Int32.ofNat tt)), (.ref iA)])) rfl rfl (hb hby d14_75)
      refine own_Goes.step st33 ?_
      have f34 := f6.wr W33
      have f35 := f7.other W33 (Or.inl m1)
      have f36 := f8.other W33 (Or.inl m1)
      have f37 := f9.other W33 (Or.inl m1)
      have f38 := f10.other W33 (Or.inl m1)
      have f39 := f11.other W33 (Or.inl m1)
      have f40 := f12.other W33 (Or.inl m1)
      have f41 := f13.other W33 (Or.inl m1)
      have f42 := f14.other W33 (Or.inl m1)
      have f43 := f15.other W33 (Or.inl m1)
      have f44 := f16.other W33 (Or.inl m1)
      have f45 := f17.other W33 (Or.inl m1)
      have f46 := f18.other W33 m2
      have f47 := f19.other W33 m3
      have f48 := f20.other W33 m4
      have f49 := f21.other W33 m5
      have f50 : own_Ar Z h33 iA .int 16 (fun uu => .int ((fun j => if j = tt then (x1 + (1 : Int32)) else S j) uu)) := (f22.set W33).congr fun j _ => by dsimp only; exact (apply_ite Value.int _ _ _).symm
      have K51 := K23.wr W33 (Or.inl (List.mem_of_getElem? (i := 1) rfl))
      have N52 := Fr.snoc X33 N24 gi
      have Z53 : n0 ≤ h33.size := Nat.le_trans Z25 (Keep.of_wr W33).1
      show own_Goes _ _ _ _ _ _ _ (T33.setTop (mkF m 76 #[.val (.ref x0), .val (.int x1), .val (.long (K pp)), .second, .val (.int (Int32.ofNat tt))] []))
      refine own_Goes.step (fun tq kq => XS.aloadN X33.here hx rfl (hb hby d14_76) rfl rfl kq) ?_
      show own_Goes _ _ _ _ _ _ _ (T33.setTop (mkF m 77 #[.val (.ref x0), .val (.int x1), .val (.long (K pp)), .second, .val (.int (Int32.ofNat tt))] [(.ref x0)]))
      refine own_Goes.step (fun tq kq => XS.dup X33.here hx rfl (hb hby d14_77) rfl rfl kq) ?_
      show own_Goes _ _ _ _ _ _ _ (T33.setTop (mkF m 78 #[.val (.ref x0), .val (.int x1), .val (.long (K pp)), .second, .val (.int (Int32.ofNat tt))] [(.ref x0), (.ref x0)]))
      obtain ⟨T54, X54, e54, st54⟩ := getF X33 hx hZ hown (host := "") (Or.inl (own_at hw 68 rfl)) Via.refl e33 f44 (g := (mkF m 78 #[.val (.ref x0), .val (.int x1), .val (.long (K pp)), .second, .val (.int (Int32.ofNat tt))] [(.ref x0), (.ref x0)])) rfl rfl (hb hby d14_78)
      refine own_Goes.step st54 ?_
      show own_Goes _ _ _ _ _ _ _ (T54.setTop (mkF m 81 #[.val (.ref x0), .val (.int x1), .val (.long (K pp)), .second, .val (.int (Int32.ofNat tt))] [(.int ix), (.ref x0)]))
      refine own_Goes.step (fun tq kq => XT.iconstV X54.here hx rfl (1 : Int32) (hb hby d14_81) (by decide) kq) ?_
      show own_Goes _ _ _ _ _ _ _ (T54.setTop (mkF m 82 #[.val (.ref x0), .val (.int x1), .val (.long (K pp)), .second, .val (.int (Int32.ofNat tt))] [(.int (1 : Int32)), (.int ix), (.ref x0)]))
      refine own_Goes.step (fun tq kq => XS.iadd X54.here hx rfl (hb hby d14_82) rfl kq) ?_
      show own_Goes _ _ _ _ _ _ _ (T54.setTop (mkF m 83 #[.val (.ref x0), .val (.int x1), .val (.long (K pp)), .second, .val (.int (Int32.ofNat tt))] [(.int (ix + (1 : Int32))), (.ref x0)]))
      obtain ⟨T55, h55, X55, e55, W55, st55⟩ := putF X54 hx hZ hown (host := "") (Or.inl (own_at hw 68 rfl)) Via.refl e54 (v := (.int (ix + (1 : Int32)))) f44 f34 (Or.inl (own_at hw 69 rfl)) (own_at hw 1 rfl) (ty := .int) (by decide) rfl rfl (g := (mkF m 83 #[.val (.ref x0), .val (.int x1), .val (.long (K pp)), .second, .val (.int (Int32.ofNat tt))] [(.int (ix + (1 : Int32))), (.ref x0)])) rfl rfl (hb hby d14_83)
      refine own_Goes.step st55 ?_
      have f56 := f34.wr W55
      have f57 := f35.other W55 (Or.inr (slot_ne (Or.inl (own_at hw 11 rfl)) (Or.inl (own_at hw 69 rfl)) (by decide) (t := (.array .long)) (t' := .int) (by decide) (by decide)))
      have f58 := f36.other W55 (Or.inr (slot_ne (Or.inl (own_at hw 13 rfl)) (Or.inl (own_at hw 69 rfl)) (by decide) (t := (.array .long)) (t' := .int) (by decide) (by decide)))
      have f59 := f37.other W55 (Or.inr (slot_ne (Or.inl (own_at hw 16 rfl)) (Or.inl (own_at hw 69 rfl)) (by decide) (t := (.array .boolean)) (t' := .int) (by decide) (by decide)))
      have f60 := f38.other W55 (Or.inr (slot_ne (Or.inl (own_at hw 19 rfl)) (Or.inl (own_at hw 69 rfl)) (by decide) (t := (.array .int)) (t' := .int) (by decide) (by decide)))
      have f61 := f39.other W55 (Or.inr (slot_ne (Or.inl (own_at hw 44 rfl)) (Or.inl (own_at hw 69 rfl)) (by decide) (t := .int) (t' := .int) (by decide) (by decide)))
      have f62 := f40.other W55 (Or.inr (slot_ne (Or.inl (own_at hw 51 rfl)) (Or.inl (own_at hw 69 rfl)) (by decide) (t := .long) (t' := .int) (by decide) (by decide)))
      have f63 := f41.other W55 (Or.inr (slot_ne (Or.inl (own_at hw 53 rfl)) (Or.inl (own_at hw 69 rfl)) (by decide) (t := .boolean) (t' := .int) (by decide) (by decide)))
      have f64 := f42.other W55 (Or.inr (slot_ne (Or.inl (own_at hw 55 rfl)) (Or.inl (own_at hw 69 rfl)) (by decide) (t := .boolean) (t' := .int) (by decide) (by decide)))
      have f65 := f43.other W55 (Or.inr (slot_ne (Or.inl (own_at hw 62 rfl)) (Or.inl (own_at hw 69 rfl)) (by decide) (t := (.array .int)) (t' := .int) (by decide) (by decide)))
      have f66 := f44.same W55
      have f67 := f45.other W55 (Or.inr (slot_ne (Or.inl (own_at hw 21 rfl)) (Or.inl (own_at hw 69 rfl)) (by decide) (t := .int) (t' := .int) (by decide) (by decide)))
      have f68 := f46.other W55 (Ne.symm n1)
      have f69 := f47.other W55 (Ne.symm n2)
      have f70 := f48.other W55 (Ne.symm n3)
      have f71 := f49.other W55 (Ne.symm n4)
      have f72 := f50.other W55 (Ne.symm m1)
      have K73 := K51.wr W55 (Or.inl (List.mem_of_getElem? (i := 0) rfl))
      have N74 := Fr.snoc X55 N52 gw0
      have Z75 : n0 ≤ h55.size := Nat.le_trans Z53 (Keep.of_wr W55).1
      show own_Goes _ _ _ _ _ _ _ (T55.setTop (mkF m 86 #[.val (.ref x0), .val (.int x1), .val (.long (K pp)), .second, .val (.int (Int32.ofNat tt))] []))
      refine own_Goes.step (fun tq kq => XS.aloadN X55.here hx rfl (hb hby d14_86) rfl rfl kq) ?_
      show own_Goes _ _ _ _ _ _ _ (T55.setTop (mkF m 87 #[.val (.ref x0), .val (.int x1), .val (.long (K pp)), .second, .val (.int (Int32.ofNat tt))] [(.ref x0)]))
      refine own_Goes.step (fun tq kq => XS.iload X55.here hx rfl (hb hby d14_87) rfl kq) ?_
      show own_Goes _ _ _ _ _ _ _ (T55.setTop (mkF m 89 #[.val (.ref x0), .val (.int x1), .val (.long (K pp)), .second, .val (.int (Int32.ofNat tt))] [(.int (Int32.ofNat tt)), (.ref x0)]))
      obtain ⟨T76, h76, X76, e76, W76, st76⟩ := putF X55 hx hZ hown (host := "") (Or.inl (own_at hw 20 rfl)) Via.refl e55 (v := (.int (Int32.ofNat tt))) f67 f56 (Or.inl (own_at hw 21 rfl)) (own_at hw 1 rfl) (ty := .int) (by decide) rfl rfl (g := (mkF m 89 #[.val (.ref x0), .val (.int x1), .val (.long (K pp)), .second, .val (.int (Int32.ofNat tt))] [(.int (Int32.ofNat tt)), (.ref x0)])) rfl rfl (hb hby d14_89)
      refine own_Goes.step st76 ?_
      have f77 := f56.wr W76
      have f78 := f57.other W76 (Or.inr (slot_ne (Or.inl (own_at hw 11 rfl)) (Or.inl (own_at hw 21 rfl)) (by decide) (t := (.array .long)) (t' := .int) (by decide) (by decide)))
      have f79 := f58.other W76 (Or.inr (slot_ne (Or.inl (own_at hw 13 rfl)) (Or.inl (own_at hw 21 rfl)) (by decide) (t := (.array .long)) (t' := .int) (by decide) (by decide)))
      have f80 := f59.other W76 (Or.inr (slot_ne (Or.inl (own_at hw 16 rfl)) (Or.inl (own_at hw 21 rfl)) (by decide) (t := (.array .boolean)) (t' := .int) (by decide) (by decide)))
      have f81 := f60.other W76 (Or.inr (slot_ne (Or.inl (own_at hw 19 rfl)) (Or.inl (own_at hw 21 rfl)) (by decide) (t := (.array .int)) (t' := .int) (by decide) (by decide)))
      have f82 := f61.other W76 (Or.inr (slot_ne (Or.inl (own_at hw 44 rfl)) (Or.inl (own_at hw 21 rfl)) (by decide) (t := .int) (t' := .int) (by decide) (by decide)))
      have f83 := f62.other W76 (Or.inr (slot_ne (Or.inl (own_at hw 51 rfl)) (Or.inl (own_at hw 21 rfl)) (by decide) (t := .long) (t' := .int) (by decide) (by decide)))
      have f84 := f63.other W76 (Or.inr (slot_ne (Or.inl (own_at hw 53 rfl)) (Or.inl (own_at hw 21 rfl)) (by decide) (t := .boolean) (t' := .int) (by decide) (by decide)))
      have f85 := f64.other W76 (Or.inr (slot_ne (Or.inl (own_at hw 55 rfl)) (Or.inl (own_at hw 21 rfl)) (by decide) (t := .boolean) (t' := .int) (by decide) (by decide)))
      have f86 := f65.other W76 (Or.inr (slot_ne (Or.inl (own_at hw 62 rfl)) (Or.inl (own_at hw 21 rfl)) (by decide) (t := (.array .int)) (t' := .int) (by decide) (by decide)))
      have f87 := f66.other W76 (Or.inr (slot_ne (Or.inl (own_at hw 69 rfl)) (Or.inl (own_at hw 21 rfl)) (by decide) (t := .int) (t' := .int) (by decide) (by decide)))
      have f88 := f67.same W76
      have f89 := f68.other W76 (Ne.symm n1)
      have f90 := f69.other W76 (Ne.symm n2)
      have f91 := f70.other W76 (Ne.symm n3)
      have f92 := f71.other W76 (Ne.symm n4)
      have f93 := f72.other W76 (Ne.symm m1)
      have K94 := K73.wr W76 (Or.inl (List.mem_of_getElem? (i := 0) rfl))
      have N95 := Fr.snoc X76 N74 gw0
      have Z96 : n0 ≤ h76.size := Nat.le_trans Z75 (Keep.of_wr W76).1
      show own_Goes _ _ _ _ _ _ _ (T76.setTop (mkF m 92 #[.val (.ref x0), .val (.int x1), .val (.long (K pp)), .second, .val (.int (Int32.ofNat tt))] []))
      refine own_endV X76 hx Bd.notSynchronized Bd.returns (hb hby d14_92) ?_ (by decide) (by decide)
      show own_F14 Z x0 x1 kA sA dA pA K Sz D cnt fs mx am la ix iA S pp tt n0 h0 _ T76.heap _
      rw [e76]
      refine ⟨rfl, N95, K94, ?_⟩
      rw [if_pos hc28]
      rw [show Int32.ofNat (pp + 1) = x1 + (1 : Int32) from by rw [← own_cnt, own_self hp]]
      exact ⟨⟨f77, f78, f79, f80, f81, f82, f83, f84, f85, f86, f87, f88, f89, f90, f91, f92, n1, n2, n3, n4, n5, n6, n7, n8, n9, n10, gw0, gw1, gw2, gw3, hmx, ham⟩, ⟨f93, m1, m2, m3, m4, m5, gi⟩⟩
    · refine own_Goes.step (fun tq kq => XS.ifNo X26.here hx rfl (hb hby d14_30) rfl (XT.i0_eq_f hc28) kq) ?_
      show own_Goes _ _ _ _ _ _ _ (T26.setTop (mkF m 33 #[.val (.ref x0), .val (.int x1), .val (.long (K pp)), .second, .val (.int (Int32.ofNat tt))] []))
      refine own_endV X26 hx Bd.notSynchronized Bd.returns (hb hby d14_33) ?_ (by decide) (by decide)
      show own_F14 Z x0 x1 kA sA dA pA K Sz D cnt fs mx am la ix iA S pp tt n0 h0 _ T26.heap _
      rw [e26]
      refine ⟨rfl, N24, K23, ?_⟩
      rw [if_neg hc28]
      exact ⟨⟨f6, f7, f8, f9, f10, f11, f12, f13, f14, f15, f16, f17, f18, f19, f20, f21, n1, n2, n3, n4, n5, n6, n7, n8, n9, n10, gw0, gw1, gw2, gw3, hmx, ham⟩, ⟨f22, m1, m2, m3, m4, m5, gi⟩⟩
  obtain ⟨t2, o2, q1, q2, q3, q4⟩ := hgo
  exact ⟨t2, o2, castTop (ef_14 m x0 x1) q1, q2, q3, q4⟩
theorem d11_0 : decode prog_67_method_8_code 0 = .ok (.bipush 16, 2) := by decide +kernel
theorem d11_2 : decode prog_67_method_8_code 2 = .ok (.istore_n 1, 1) := by decide +kernel
theorem d11_3 : decode prog_67_method_8_code 3 = .ok (.iload_n 1, 1) := by decide +kernel
theorem d11_4 : decode prog_67_method_8_code 4 = .ok (.iconst 2, 1) := by decide +kernel
theorem d11_5 : decode prog_67_method_8_code 5 = .ok (.aload_n 0, 1) := by decide +kernel
theorem d11_6 : decode prog_67_method_8_code 6 = .ok (.getfield 28, 3) := by decide +kernel
theorem d11_9 : decode prog_67_method_8_code 9 = .ok (.imul, 1) := by decide +kernel
theorem d11_10 : decode prog_67_method_8_code 10 = .ok (.if_icmp .ge 10, 3) := by decide +kernel
theorem d11_13 : decode prog_67_method_8_code 13 = .ok (.iload_n 1, 1) := by decide +kernel
theorem d11_14 : decode prog_67_method_8_code 14 = .ok (.iconst 2, 1) := by decide +kernel
theorem d11_15 : decode prog_67_method_8_code 15 = .ok (.imul, 1) := by decide +kernel
theorem d11_16 : decode prog_67_method_8_code 16 = .ok (.istore_n 1, 1) := by decide +kernel
theorem d11_17 : decode prog_67_method_8_code 17 = .ok (.goto (-14), 3) := by decide +kernel
theorem d11_20 : decode prog_67_method_8_code 20 = .ok (.aload_n 0, 1) := by decide +kernel
theorem d11_21 : decode prog_67_method_8_code 21 = .ok (.iload_n 1, 1) := by decide +kernel
theorem d11_22 : decode prog_67_method_8_code 22 = .ok (.newarray .int, 2) := by decide +kernel
theorem d11_24 : decode prog_67_method_8_code 24 = .ok (.putfield 55, 3) := by decide +kernel
theorem d11_27 : decode prog_67_method_8_code 27 = .ok (.aload_n 0, 1) := by decide +kernel
theorem d11_28 : decode prog_67_method_8_code 28 = .ok (.iconst 0, 1) := by decide +kernel
theorem d11_29 : decode prog_67_method_8_code 29 = .ok (.putfield 62, 3) := by decide +kernel
theorem d11_32 : decode prog_67_method_8_code 32 = .ok (.iconst 0, 1) := by decide +kernel
theorem d11_33 : decode prog_67_method_8_code 33 = .ok (.istore_n 2, 1) := by decide +kernel
theorem d11_34 : decode prog_67_method_8_code 34 = .ok (.iload_n 2, 1) := by decide +kernel
theorem d11_35 : decode prog_67_method_8_code 35 = .ok (.aload_n 0, 1) := by decide +kernel
theorem d11_36 : decode prog_67_method_8_code 36 = .ok (.getfield 28, 3) := by decide +kernel
theorem d11_39 : decode prog_67_method_8_code 39 = .ok (.if_icmp .ge 14, 3) := by decide +kernel
theorem d11_42 : decode prog_67_method_8_code 42 = .ok (.aload_n 0, 1) := by decide +kernel
theorem d11_43 : decode prog_67_method_8_code 43 = .ok (.iload_n 2, 1) := by decide +kernel
theorem d11_44 : decode prog_67_method_8_code 44 = .ok (.invokevirtual 58, 3) := by decide +kernel
theorem d11_47 : decode prog_67_method_8_code 47 = .ok (.iinc 2 1, 3) := by decide +kernel
theorem d11_50 : decode prog_67_method_8_code 50 = .ok (.goto (-16), 3) := by decide +kernel
theorem d11_53 : decode prog_67_method_8_code 53 = .ok (.return_, 1) := by decide +kernel
theorem pn_11 : plainName "com/example/strati/strati/sim/WriteBuffer" = true := by first | (simp [plainName, overriddenIn]; done) | decide +kernel
theorem pd_11 : parseMethodDescriptor "()V" = some ⟨[], none⟩ := by decide +kernel
theorem ef_11 (m : MethodId) (x0 : Addr) : entryFrame m #[(.ref x0)] 3 = mkF m 0 #[.val (.ref x0), .unset, .unset] [] := by first | (simp [entryFrame, mkF, argsToLocals, Value.category]; done) | rfl
def own_F11 (Z : State) (x0 : Addr) (kA sA dA pA : Addr) (K Sz : Nat → Int64) (D : Nat → Int32) (cnt : Nat) (fs : Int64) (mx am la : Int32) (ix : Int32) (n0 : Nat) (h0 : Heap) (v : Option Value) (h : Heap) (L : List Loc) : Prop := v = none ∧ Fr n0 L ∧ Keep h0 h [x0] ∧ ∃ (iA : Addr) (S : Nat → Int32) (ixn : Nat) (lb : Int32), own_bld K la cnt = some (S, ixn, lb) ∧ h0.size ≤ iA ∧ own_W Z h n0 x0 kA sA dA pA (.ref iA) K Sz D cnt fs mx am (Int32.ofNat ixn) lb ∧ own_I Z h n0 x0 kA sA dA pA iA S
set_option maxRecDepth 65536 in
set_option maxHeartbeats 40000000 in
theorem own_m11 (l : Launch) (Z : State) (a0 : Array Value) (hw : ∀ d ∈ tables_1, d.before a0 Z = true) (ws : List Jvm.Cond) (x0 : Addr) (kA sA dA pA : Addr) (K Sz : Nat → Int64) (D : Nat → Int32) (cnt : Nat) (fs : Int64) (mx am la : Int32) (ix : Int32) (n0 : Nat) (h0 : Heap)  (B : own_W Z h0 n0 x0 kA sA dA pA .null K Sz D cnt fs mx am ix la) (hc3 : cnt ≤ 3) :
    MetFree l (⟨"com/example/strati/strati/sim/WriteBuffer", "buildIndex", "()V"⟩ : MethodName) (head1 (Jvm.Cond.code (⟨"com/example/strati/strati/sim/WriteBuffer", "buildIndex", "()V"⟩ : MethodName) prog_67_method_8_code 3 none :: ws) ({ frames := 3, cells := 1, slots := 16, locals := 46 } : Room)) (fun a U => a = #[(.ref x0)] ∧ Z.Warmed39 U.vm ∧ U.heap = h0) (fun _ _ _ _ _ => True) (fun _ U o U' => ∃ v L, o = .returned v ∧ own_F11 Z x0 kA sA dA pA K Sz D cnt fs mx am la ix n0 h0 v U'.heap L ∧ FrameEnd U o U' L ({ frames := 3, cells := 1, slots := 16, locals := 46 } : Room).cells ({ frames := 3, cells := 1, slots := 16, locals := 46 } : Room).slots) := by
  refine MetFree.of_bodySF (plainFor_of_name pn_11) hisR ?_
  intro p e s m args below meth c s₁ Bd hml0 hP hK
  obtain ⟨rfl, hZ, hh⟩ := hP
  have hx := Bd.exec
  have hby := Bd.bytes
  have hml : c.maxLocals = 3 := hml0
  have hown : s.vm.findClass "com/example/strati/strati/sim/WriteBuffer" = some m.cls := findClass_of_methodNamed Bd.named
  have hnm := (name_of_methodNamed Bd.named Bd.method).1
  have X0 : Stand p l e ({ frames := 3, cells := 1, slots := 16, locals := 46 } : Room) s m #[(.ref x0)] below meth c s₁ [] 0 0 := Stand.of_body Bd
  have e0 : s₁.heap = h0 := by rw [← hh, Bd.state]; rfl
  obtain ⟨E0, P0, P1, P2, P3, P4, P5, P6, P7, P8, P9, P10, R0, R1, R2, R3, n1, n2, n3, n4, n5, n6, n7, n8, n9, n10, gw0, gw1, gw2, gw3, hmx, ham⟩ := B
  have Z0 : n0 ≤ h0.size := Nat.le_trans gw0 (Nat.le_of_lt E0.lt)
  have N0 := Fr.nil n0
  have K0 : Keep h0 h0 [x0] := Keep.refl h0 [x0]
  have hgo : own_Goes p e below s (own_F11 Z x0 kA sA dA pA K Sz D cnt fs mx am la ix n0 h0) 1 16 (s₁.setTop (mkF m 0 #[.val (.ref x0), .unset, .unset] [])) := by
    refine own_Goes.step (fun tq kq => XT.bipushV X0.here hx rfl (16 : Int32) (hb hby d11_0) (by decide) kq) ?_
    show own_Goes _ _ _ _ _ _ _ (s₁.setTop (mkF m 2 #[.val (.ref x0), .unset, .unset] [(.int (16 : Int32))]))
    refine own_Goes.step (fun tq kq => XS.istoreN X0.here hx rfl (hb hby d11_2) rfl (l' := #[.val (.ref x0), .val (.int (16 : Int32)), .unset]) rfl kq) ?_
    show own_Goes _ _ _ _ _ _ _ (s₁.setTop (mkF m 3 #[.val (.ref x0), .val (.int (16 : Int32)), .unset] []))
    refine own_Goes.step (fun tq kq => XS.iloadN X0.here hx rfl (hb hby d11_3) rfl kq) ?_
    show own_Goes _ _ _ _ _ _ _ (s₁.setTop (mkF m 4 #[.val (.ref x0), .val (.int (16 : Int32)), .unset] [(.int (16 : Int32))]))
    refine own_Goes.step (fun tq kq => XT.iconstV X0.here hx rfl (2 : Int32) (hb hby d11_4) (by decide) kq) ?_
    show own_Goes _ _ _ _ _ _ _ (s₁.setTop (mkF m 5 #[.val (.ref x0), .val (.int (16 : Int32)), .unset] [(.int (2 : Int32)), (.int (16 : Int32))]))
    refine own_Goes.step (fun tq kq => XS.aloadN X0.here hx rfl (hb hby d11_5) rfl rfl kq) ?_
    show own_Goes _ _ _ _ _ _ _ (s₁.setTop (mkF m 6 #[.val (.ref x0), .val (.int (16 : Int32)), .unset] [(.ref x0), (.int (2 : Int32)), (.int (16 : Int32))]))
    obtain ⟨T1, X1, e1, st1⟩ := getF X0 hx hZ hown (host := "") (Or.inl (own_at hw 43 rfl)) Via.refl e0 P4 (g := (mkF m 6 #[.val (.ref x0), .val (.int (16 : Int32)), .unset] [(.ref x0), (.int (2 : Int32)), (.int (16 : Int32))])) rfl rfl (hb hby d11_6)
    refine own_Goes.step st1 ?_
    show own_Goes _ _ _ _ _ _ _ (T1.setTop (mkF m 9 #[.val (.ref x0), .val (.int (16 : Int32)), .unset] [(.int (Int32.ofNat cnt)), (.int (2 : Int32)), (.int (16 : Int32))]))
    refine own_Goes.step (fun tq kq => XS.imul X1.here hx rfl (hb hby d11_9) rfl kq) ?_
    show own_Goes _ _ _ _ _ _ _ (T1.setTop (mkF m 10 #[.val (.ref x0), .val (.int (16 : Int32)), .unset] [(.int ((2 : Int32) * (Int32.ofNat cnt))), (.int (16 : Int32))]))
    refine own_Goes.step (fun tq kq => XS.icmpYes X1.here hx rfl (pc0 := 10) (pc' := 20) rfl (hb hby d11_10) rfl (XT.ii_ge_t (own_room16 hc3)) (by decide) (by decide) kq) ?_
    show own_Goes _ _ _ _ _ _ _ (T1.setTop (mkF m 20 #[.val (.ref x0), .val (.int (16 : Int32)), .unset] []))
    refine own_Goes.step (fun tq kq => XS.aloadN X1.here hx rfl (hb hby d11_20) rfl rfl kq) ?_
    show own_Goes _ _ _ _ _ _ _ (T1.setTop (mkF m 21 #[.val (.ref x0), .val (.int (16 : Int32)), .unset] [(.ref x0)]))
    refine own_Goes.step (fun tq kq => XS.iloadN X1.here hx rfl (hb hby d11_21) rfl kq) ?_
    show own_Goes _ _ _ _ _ _ _ (T1.setTop (mkF m 22 #[.val (.ref x0), .val (.int (16 : Int32)), .unset] [(.int (16 : Int32)), (.ref x0)]))
    obtain ⟨T2, h2, k2, X2, e2, E2, A2, st2⟩ := newP X1 hx hZ (own_at hw 17 rfl) e1 (g := (mkF m 22 #[.val (.ref x0), .val (.int (16 : Int32)), .unset] [(.int (16 : Int32)), (.ref x0)])) rfl (hb hby d11_22) rfl (by decide) (cap := 16) (by decide) (by decide) (by decide) (by decide)
    obtain ⟨a2, g2⟩ : ∃ z, z = h0.size := ⟨_, rfl⟩
    rw [← g2] at A2 st2
    have ne3 : x0 ≠ a2 := by rw [g2]; exact Nat.ne_of_lt E0.lt
    have ne4 : kA ≠ a2 := by rw [g2]; exact Nat.ne_of_lt R0.lt
    have ne5 : sA ≠ a2 := by rw [g2]; exact Nat.ne_of_lt R1.lt
    have ne6 : dA ≠ a2 := by rw [g2]; exact Nat.ne_of_lt R2.lt
    have ne7 : pA ≠ a2 := by rw [g2]; exact Nat.ne_of_lt R3.lt
    have f8 := Jvm.RoadKit.Exa.ext E2 E0
    have f9 := Jvm.RoadKit.Fld.ext E2 P0
    have f10 := Jvm.RoadKit.Fld.ext E2 P1
    have f11 := Jvm.RoadKit.Fld.ext E2 P2
    have f12 := Jvm.RoadKit.Fld.ext E2 P3
    have f13 := Jvm.RoadKit.Fld.ext E2 P4
    have f14 := Jvm.RoadKit.Fld.ext E2 P5
    have f15 := Jvm.RoadKit.Fld.ext E2 P6
    have f16 := Jvm.RoadKit.Fld.ext E2 P7
    have f17 := Jvm.RoadKit.Fld.ext E2 P8
    have f18 := Jvm.RoadKit.Fld.ext E2 P9
    have f19 := Jvm.RoadKit.Fld.ext E2 P10
    have f20 := R0.ext E2
    have f21 := R1.ext E2
    have f22 := R2.ext E2
    have f23 := R3.ext E2
    have r2 : own_Ar Z h2 a2 .int 16 (fun uu => .int ((fun _ => (0 : Int32)) uu)) := own_Ar.new A2
    have ga2 : n0 ≤ a2 := Nat.le_trans Z0 (Nat.le_of_eq g2.symm)
    have Z2 : n0 ≤ h2.size := Nat.le_trans Z0 E2.1
    have K2 := K0.ext E2
    have Kh2 : h0.size ≤ a2 := Nat.le_trans K0.1 (Nat.le_of_eq g2.symm)
    refine own_Goes.step st2 ?_
    show own_Goes _ _ _ _ _ _ _ (T2.setTop (mkF m 24 #[.val (.ref x0), .val (.int (16 : Int32)), .unset] [(.ref a2), (.ref x0)]))
    obtain ⟨T24, h24, X24, e24, W24, st24⟩ := putF X2 hx hZ hown (host := "") (Or.inl (own_at hw 61 rfl)) Via.refl e2 (v := (.ref a2)) f17 f8 (Or.inl (own_at hw 62 rfl)) (own_at hw 1 rfl) (ty := (.array .int)) (by decide) rfl rfl (g := (mkF m 24 #[.val (.ref x0), .val (.int (16 : Int32)), .unset] [(.ref a2), (.ref x0)])) rfl rfl (hb hby d11_24)
    refine own_Goes.step st24 ?_
    have f25 := f8.wr W24
    have f26 := f9.other W24 (Or.inr (slot_ne (Or.inl (own_at hw 11 rfl)) (Or.inl (own_at hw 62 rfl)) (by decide) (t := (.array .long)) (t' := (.array .int)) (by decide) (by decide)))
    have f27 := f10.other W24 (Or.inr (slot_ne (Or.inl (own_at hw 13 rfl)) (Or.inl (own_at hw 62 rfl)) (by decide) (t := (.array .long)) (t' := (.array .int)) (by decide) (by decide)))
    have f28 := f11.other W24 (Or.inr (slot_ne (Or.inl (own_at hw 16 rfl)) (Or.inl (own_at hw 62 rfl)) (by decide) (t := (.array .boolean)) (t' := (.array .int)) (by decide) (by decide)))
    have f29 := f12.other W24 (Or.inr (slot_ne (Or.inl (own_at hw 19 rfl)) (Or.inl (own_at hw 62 rfl)) (by decide) (t := (.array .int)) (t' := (.array .int)) (by decide) (by decide)))
    have f30 := f13.other W24 (Or.inr (slot_ne (Or.inl (own_at hw 44 rfl)) (Or.inl (own_at hw 62 rfl)) (by decide) (t := .int) (t' := (.array .int)) (by decide) (by decide)))
    have f31 := f14.other W24 (Or.inr (slot_ne (Or.inl (own_at hw 51 rfl)) (Or.inl (own_at hw 62 rfl)) (by decide) (t := .long) (t' := (.array .int)) (by decide) (by decide)))
    have f32 := f15.other W24 (Or.inr (slot_ne (Or.inl (own_at hw 53 rfl)) (Or.inl (own_at hw 62 rfl)) (by decide) (t := .boolean) (t' := (.array .int)) (by decide) (by decide)))
    have f33 := f16.other W24 (Or.inr (slot_ne (Or.inl (own_at hw 55 rfl)) (Or.inl (own_at hw 62 rfl)) (by decide) (t := .boolean) (t' := (.array .int)) (by decide) (by decide)))
    have f34 := f17.same W24
    have f35 := f18.other W24 (Or.inr (slot_ne (Or.inl (own_at hw 69 rfl)) (Or.inl (own_at hw 62 rfl)) (by decide) (t := .int) (t' := (.array .int)) (by decide) (by decide)))
    have f36 := f19.other W24 (Or.inr (slot_ne (Or.inl (own_at hw 21 rfl)) (Or.inl (own_at hw 62 rfl)) (by decide) (t := .int) (t' := (.array .int)) (by decide) (by decide)))
    have f37 := f20.other W24 (Ne.symm n1)
    have f38 := f21.other W24 (Ne.symm n2)
    have f39 := f22.other W24 (Ne.symm n3)
    have f40 := f23.other W24 (Ne.symm n4)
    have f41 := r2.other W24 (Ne.symm ne3)
    have K42 := K2.wr W24 (Or.inl (List.mem_of_getElem? (i := 0) rfl))
    have N43 := Fr.snoc X24 N0 gw0
    have Z44 : n0 ≤ h24.size := Nat.le_trans Z2 (Keep.of_wr W24).1
    show own_Goes _ _ _ _ _ _ _ (T24.setTop (mkF m 27 #[.val (.ref x0), .val (.int (16 : Int32)), .unset] []))
    refine own_Goes.step (fun tq kq => XS.aloadN X24.here hx rfl (hb hby d11_27) rfl rfl kq) ?_
    show own_Goes _ _ _ _ _ _ _ (T24.setTop (mkF m 28 #[.val (.ref x0), .val (.int (16 : Int32)), .unset] [(.ref x0)]))
    refine own_Goes.step (fun tq kq => XT.iconstV X24.here hx rfl (0 : Int32) (hb hby d11_28) (by decide) kq) ?_
    show own_Goes _ _ _ _ _ _ _ (T24.setTop (mkF m 29 #[.val (.ref x0), .val (.int (16 : Int32)), .unset] [(.int (0 : Int32)), (.ref x0)]))
    obtain ⟨T45, h45, X45, e45, W45, st45⟩ := putF X24 hx hZ hown (host := "") (Or.inl (own_at hw 68 rfl)) Via.refl e24 (v := (.int (0 : Int32))) f35 f25 (Or.inl (own_at hw 69 rfl)) (own_at hw 1 rfl) (ty := .int) (by decide) rfl rfl (g := (mkF m 29 #[.val (.ref x0), .val (.int (16 : Int32)), .unset] [(.int (0 : Int32)), (.ref x0)])) rfl rfl (hb hby d11_29)
    refine own_Goes.step st45 ?_
    have f46 := f25.wr W45
    have f47 := f26.other W45 (Or.inr (slot_ne (Or.inl (own_at hw 11 rfl)) (Or.inl (own_at hw 69 rfl)) (by decide) (t := (.array .long)) (t' := .int) (by decide) (by decide)))
    have f48 := f27.other W45 (Or.inr (slot_ne (Or.inl (own_at hw 13 rfl)) (Or.inl (own_at hw 69 rfl)) (by decide) (t := (.array .long)) (t' := .int) (by decide) (by decide)))
    have f49 := f28.other W45 (Or.inr (slot_ne (Or.inl (own_at hw 16 rfl)) (Or.inl (own_at hw 69 rfl)) (by decide) (t := (.array .boolean)) (t' := .int) (by decide) (by decide)))
    have f50 := f29.other W45 (Or.inr (slot_ne (Or.inl (own_at hw 19 rfl)) (Or.inl (own_at hw 69 rfl)) (by decide) (t := (.array .int)) (t' := .int) (by decide) (by decide)))
    have f51 := f30.other W45 (Or.inr (slot_ne (Or.inl (own_at hw 44 rfl)) (Or.inl (own_at hw 69 rfl)) (by decide) (t := .int) (t' := .int) (by decide) (by decide)))
    have f52 := f31.other W45 (Or.inr (slot_ne (Or.inl (own_at hw 51 rfl)) (Or.inl (own_at hw 69 rfl)) (by decide) (t := .long) (t' := .int) (by decide) (by decide)))
    have f53 := f32.other W45 (Or.inr (slot_ne (Or.inl (own_at hw 53 rfl)) (Or.inl (own_at hw 69 rfl)) (by decide) (t := .boolean) (t' := .int) (by decide) (by decide)))
    have f54 := f33.other W45 (Or.inr (slot_ne (Or.inl (own_at hw 55 rfl)) (Or.inl (own_at hw 69 rfl)) (by decide) (t := .boolean) (t' := .int) (by decide) (by decide)))
    have f55 := f34.other W45 (Or.inr (slot_ne (Or.inl (own_at hw 62 rfl)) (Or.inl (own_at hw 69 rfl)) (by decide) (t := (.array .int)) (t' := .int) (by decide) (by decide)))
    have f56 := f35.same W45
    have f57 := f36.other W45 (Or.inr (slot_ne (Or.inl (own_at hw 21 rfl)) (Or.inl (own_at hw 69 rfl)) (by decide) (t := .int) (t' := .int) (by decide) (by decide)))
    have f58 := f37.other W45 (Ne.symm n1)
    have f59 := f38.other W45 (Ne.symm n2)
    have f60 := f39.other W45 (Ne.symm n3)
    have f61 := f40.other W45 (Ne.symm n4)
    have f62 := f41.other W45 (Ne.symm ne3)
    have K63 := K42.wr W45 (Or.inl (List.mem_of_getElem? (i := 0) rfl))
    have N64 := Fr.snoc X45 N43 gw0
    have Z65 : n0 ≤ h45.size := Nat.le_trans Z44 (Keep.of_wr W45).1
    show own_Goes _ _ _ _ _ _ _ (T45.setTop (mkF m 32 #[.val (.ref x0), .val (.int (16 : Int32)), .unset] []))
    refine own_Goes.step (fun tq kq => XT.iconstV X45.here hx rfl (0 : Int32) (hb hby d11_32) (by decide) kq) ?_
    show own_Goes _ _ _ _ _ _ _ (T45.setTop (mkF m 33 #[.val (.ref x0), .val (.int (16 : Int32)), .unset] [(.int (0 : Int32))]))
    refine own_Goes.step (fun tq kq => XS.istoreN X45.here hx rfl (hb hby d11_33) rfl (l' := #[.val (.ref x0), .val (.int (16 : Int32)), .val (.int (0 : Int32))]) rfl kq) ?_
    show own_Goes _ _ _ _ _ _ _ (T45.setTop (mkF m 34 #[.val (.ref x0), .val (.int (16 : Int32)), .val (.int (0 : Int32))] []))
    have hiA : h0.size ≤ a2 := Kh2
    have loop : ∀ (k j : Nat) (jv : Int32) (S : Nat → Int32) (ixn : Nat) (lb : Int32) (T : State) (lc : List Loc) (h : Heap) (X : Stand p l e ({ frames := 3, cells := 1, slots := 16, locals := 46 } : Room) s m #[(.ref x0)] below meth c T lc (0 + 1) (0 + 16)) (eT : T.heap = h) (BB : own_W Z h n0 x0 kA sA dA pA (.ref a2) K Sz D cnt fs mx am (Int32.ofNat ixn) lb) (II : own_I Z h n0 x0 kA sA dA pA a2 S) (NN : Fr n0 lc) (KK : Keep h0 h [x0]), jv.toInt = (j : Nat) → j + k = cnt → own_bld K la j = some (S, ixn, lb) → own_Goes p e below s (own_F11 Z x0 kA sA dA pA K Sz D cnt fs mx am la ix n0 h0) 1 16 (T.setTop (mkF m 34 #[.val (.ref x0), .val (.int (16 : Int32)), .val (.int jv)] [])) := by
      intro k
      induction k with
      | zero =>
        intro j jv S ixn lb T lc h X eT BB II NN KK hj hk hbl
        have hge : ¬ jv < Int32.ofNat cnt := by rw [own_lt32, own_toI (by omega)]; omega
        have hjc : j = cnt := by omega
        refine own_Goes.step (fun tq kq => XS.iloadN X.here hx rfl (hb hby d11_34) rfl kq) ?_
        show own_Goes _ _ _ _ _ _ _ (T.setTop (mkF m 35 #[.val (.ref x0), .val (.int (16 : Int32)), .val (.int jv)] [(.int jv)]))
        refine own_Goes.step (fun tq kq => XS.aloadN X.here hx rfl (hb hby d11_35) rfl rfl kq) ?_
        show own_Goes _ _ _ _ _ _ _ (T.setTop (mkF m 36 #[.val (.ref x0), .val (.int (16 : Int32)), .val (.int jv)] [(.ref x0), (.int jv)]))
        obtain ⟨T66, X66, e66, st66⟩ := getF X hx hZ hown (host := "") (Or.inl (own_at hw 43 rfl)) Via.refl eT (own_W.count BB) (g := (mkF m 36 #[.val (.ref x0), .val (.int (16 : Int32)), .val (.int jv)] [(.ref x0), (.int jv)])) rfl rfl (hb hby d11_36)
        refine own_Goes.step st66 ?_
        show own_Goes _ _ _ _ _ _ _ (T66.setTop (mkF m 39 #[.val (.ref x0), .val (.int (16 : Int32)), .val (.int jv)] [(.int (Int32.ofNat cnt)), (.int jv)]))
        refine own_Goes.step (fun tq kq => XS.icmpYes X66.here hx rfl (pc0 := 39) (pc' := 53) rfl (hb hby d11_39) rfl (XT.ii_ge_t (hge)) (by decide) (by decide) kq) ?_
        show own_Goes _ _ _ _ _ _ _ (T66.setTop (mkF m 53 #[.val (.ref x0), .val (.int (16 : Int32)), .val (.int jv)] []))
        refine own_endV X66 hx Bd.notSynchronized Bd.returns (hb hby d11_53) ?_ (by decide) (by decide)
        show own_F11 Z x0 kA sA dA pA K Sz D cnt fs mx am la ix n0 h0 _ T66.heap _
        rw [e66]
        subst hjc
        exact ⟨rfl, NN, KK, a2, S, ixn, lb, hbl, hiA, BB, II⟩
      | succ k ih =>
        intro j jv S ixn lb T lc h X eT BB II NN KK hj hk hbl
        have hlt : jv < Int32.ofNat cnt := by rw [own_lt32, own_toI (by omega)]; omega
        have IV := own_bld_inv (K := K) (la := la) (n := j) (by omega) hbl
        obtain ⟨tt, htt, hm⟩ := IV.find (by omega) (K j)
        refine own_Goes.step (fun tq kq => XS.iloadN X.here hx rfl (hb hby d11_34) rfl kq) ?_
        show own_Goes _ _ _ _ _ _ _ (T.setTop (mkF m 35 #[.val (.ref x0), .val (.int (16 : Int32)), .val (.int jv)] [(.int jv)]))
        refine own_Goes.step (fun tq kq => XS.aloadN X.here hx rfl (hb hby d11_35) rfl rfl kq) ?_
        show own_Goes _ _ _ _ _ _ _ (T.setTop (mkF m 36 #[.val (.ref x0), .val (.int (16 : Int32)), .val (.int jv)] [(.ref x0), (.int jv)]))
        obtain ⟨T67, X67, e67, st67⟩ := getF X hx hZ hown (host := "") (Or.inl (own_at hw 43 rfl)) Via.refl eT (own_W.count BB) (g := (mkF m 36 #[.val (.ref x0), .val (.int (16 : Int32)), .val (.int jv)] [(.ref x0), (.int jv)])) rfl rfl (hb hby d11_36)
        refine own_Goes.step st67 ?_
        show own_Goes _ _ _ _ _ _ _ (T67.setTop (mkF m 39 #[.val (.ref x0), .val (.int (16 : Int32)), .val (.int jv)] [(.int (Int32.ofNat cnt)), (.int jv)]))
        refine own_Goes.step (fun tq kq => XS.icmpNo X67.here hx rfl (hb hby d11_39) rfl (XT.ii_ge_f (hlt)) kq) ?_
        show own_Goes _ _ _ _ _ _ _ (T67.setTop (mkF m 42 #[.val (.ref x0), .val (.int (16 : Int32)), .val (.int jv)] []))
        refine own_Goes.step (fun tq kq => XS.aloadN X67.here hx rfl (hb hby d11_42) rfl rfl kq) ?_
        show own_Goes _ _ _ _ _ _ _ (T67.setTop (mkF m 43 #[.val (.ref x0), .val (.int (16 : Int32)), .val (.int jv)] [(.ref x0)]))
        refine own_Goes.step (fun tq kq => XS.iloadN X67.here hx rfl (hb hby d11_43) rfl kq) ?_
        show own_Goes _ _ _ _ _ _ _ (T67.setTop (mkF m 44 #[.val (.ref x0), .val (.int (16 : Int32)), .val (.int jv)] [(.int jv), (.ref x0)]))
        obtain ⟨w68, T68, L68, q68, Y68, st68⟩ := own_priv X67 hx hZ e67 (own_W.exa BB) hown (own_at hw 94 rfl) (own_at hw 96 rfl) (own_at hw 1 rfl) (own_at hw 95 rfl) (own_at hw 2 rfl) (own_at hw 97 rfl) (by decide) (own_m14 l Z a0 hw [] x0 jv kA sA dA pA K Sz D cnt fs mx am lb (Int32.ofNat ixn) a2 S j tt n0 h BB II (IV.1.ok (by omega)) hj (by omega) hm htt (own_ix8 (by have := IV.2.1; omega))) (by decide) (W := 0) (by decide) (by decide) (by decide) (g := (mkF m 44 #[.val (.ref x0), .val (.int (16 : Int32)), .val (.int jv)] [(.int jv), (.ref x0)])) rfl (by rw [hml]; rfl) (argsL := [(.int jv)]) (rest := []) (lenOf pd_14 rfl) rfl (by show 2 * 0 + _ ≤ _; exact Nat.le_of_eq rfl) (hb hby d11_44)
        obtain ⟨rfl, N68, K68, hif68⟩ := q68
        have Nn68 := Fr.app NN N68
        have KK2 := KK.trans K68 (own_kt2 hiA)
        obtain ⟨S2, ix2, la2, hb2, B2, I2⟩ := own_bnext hbl hm (fun S ix la => own_W Z T68.heap n0 x0 kA sA dA pA (.ref a2) K Sz D cnt fs mx am ix la ∧ own_I Z T68.heap n0 x0 kA sA dA pA a2 S) hif68
        refine own_Goes.step st68 ?_
        show own_Goes _ _ _ _ _ _ _ (T68.setTop (mkF m 47 #[.val (.ref x0), .val (.int (16 : Int32)), .val (.int jv)] []))
        refine own_Goes.step (fun tq kq => XT.iincV Y68.here hx rfl (1 : Int32) (hb hby d11_47) (by decide) rfl (l' := #[.val (.ref x0), .val (.int (16 : Int32)), .val (.int (jv + (1 : Int32)))]) rfl kq) ?_
        show own_Goes _ _ _ _ _ _ _ (T68.setTop (mkF m 50 #[.val (.ref x0), .val (.int (16 : Int32)), .val (.int (jv + (1 : Int32)))] []))
        refine own_Goes.step (fun tq kq => XS.goto Y68.here hx rfl (pc0 := 50) (pc' := 34) rfl (hb hby d11_50) (by decide) (by decide) kq) ?_
        show own_Goes _ _ _ _ _ _ _ (T68.setTop (mkF m 34 #[.val (.ref x0), .val (.int (16 : Int32)), .val (.int (jv + (1 : Int32)))] []))
        exact ih (j + 1) _ S2 ix2 la2 T68 _ _ Y68 rfl B2 I2 Nn68 KK2 (own_inc hj (by omega)) (by omega) hb2
    exact loop cnt 0 _ (fun _ => 0) 0 la T45 _ h45 X45 e45 ⟨f46, f47, f48, f49, f50, f51, f52, f53, f54, f55, f56, f57, f58, f59, f60, f61, n1, n2, n3, n4, n5, n6, n7, n8, n9, n10, gw0, gw1, gw2, gw3, hmx, ham⟩ ⟨f62, ne3, ne4, ne5, ne6, ne7, ga2⟩ N64 K63 rfl (by omega) rfl
  obtain ⟨t2, o2, q1, q2, q3, q4⟩ := hgo
  exact ⟨t2, o2, castTop (ef_11 m x0) q1, q2, q3, q4⟩
theorem d10_0 : decode prog_67_method_4_code 0 = .ok (.aload_n 0, 1) := by decide +kernel
theorem d10_1 : decode prog_67_method_4_code 1 = .ok (.getfield 55, 3) := by decide +kernel
theorem d10_4 : decode prog_67_method_4_code 4 = .ok (.ifnonnull 7, 3) := by decide +kernel
theorem d10_7 : decode prog_67_method_4_code 7 = .ok (.aload_n 0, 1) := by decide +kernel
theorem d10_8 : decode prog_67_method_4_code 8 = .ok (.invokevirtual 65, 3) := by decide +kernel
theorem d10_11 : decode prog_67_method_4_code 11 = .ok (.aload_n 0, 1) := by decide +kernel
theorem d10_12 : decode prog_67_method_4_code 12 = .ok (.getfield 55, 3) := by decide +kernel
theorem d10_15 : decode prog_67_method_4_code 15 = .ok (.aload_n 0, 1) := by decide +kernel
theorem d10_16 : decode prog_67_method_4_code 16 = .ok (.aload_n 0, 1) := by decide +kernel
theorem d10_17 : decode prog_67_method_4_code 17 = .ok (.getfield 55, 3) := by decide +kernel
theorem d10_20 : decode prog_67_method_4_code 20 = .ok (.lload_n 1, 1) := by decide +kernel
theorem d10_21 : decode prog_67_method_4_code 21 = .ok (.invokevirtual 68, 3) := by decide +kernel
theorem d10_24 : decode prog_67_method_4_code 24 = .ok (.iaload, 1) := by decide +kernel
theorem d10_25 : decode prog_67_method_4_code 25 = .ok (.ifCond .eq 7, 3) := by decide +kernel
theorem d10_28 : decode prog_67_method_4_code 28 = .ok (.iconst 1, 1) := by decide +kernel
theorem d10_29 : decode prog_67_method_4_code 29 = .ok (.goto 4, 3) := by decide +kernel
theorem d10_32 : decode prog_67_method_4_code 32 = .ok (.iconst 0, 1) := by decide +kernel
theorem d10_33 : decode prog_67_method_4_code 33 = .ok (.ireturn, 1) := by decide +kernel
theorem pn_10 : plainName "com/example/strati/strati/sim/WriteBuffer" = true := by first | (simp [plainName, overriddenIn]; done) | decide +kernel
theorem pd_10 : parseMethodDescriptor "(J)Z" = some ⟨[.long], (some .boolean)⟩ := by decide +kernel
theorem ef_10 (m : MethodId) (x0 : Addr) (x1 : Int64) : entryFrame m #[(.ref x0), (.long x1)] 3 = mkF m 0 #[.val (.ref x0), .val (.long x1), .second] [] := by first | (simp [entryFrame, mkF, argsToLocals, Value.category]; done) | rfl
def own_F10n (Z : State) (x0 : Addr) (x1 : Int64) (kA sA dA pA : Addr) (K Sz : Nat → Int64) (D : Nat → Int32) (cnt : Nat) (fs : Int64) (mx am la : Int32) (ix : Int32) (n0 : Nat) (h0 : Heap) (v : Option Value) (h : Heap) (L : List Loc) : Prop := v = some (.int (own_bi (own_mem K cnt x1))) ∧ Fr n0 L ∧ Keep h0 h [x0] ∧ ∃ (iA : Addr) (S : Nat → Int32) (ixn : Nat) (lb : Int32), own_bld K la cnt = some (S, ixn, lb) ∧ h0.size ≤ iA ∧ own_W Z h n0 x0 kA sA dA pA (.ref iA) K Sz D cnt fs mx am (Int32.ofNat ixn) lb ∧ own_I Z h n0 x0 kA sA dA pA iA S
set_option maxRecDepth 65536 in
set_option maxHeartbeats 40000000 in
theorem own_m10n (l : Launch) (Z : State) (a0 : Array Value) (hw : ∀ d ∈ tables_1, d.before a0 Z = true) (ws : List Jvm.Cond) (x0 : Addr) (x1 : Int64) (kA sA dA pA : Addr) (K Sz : Nat → Int64) (D : Nat → Int32) (cnt : Nat) (fs : Int64) (mx am la : Int32) (ix : Int32) (n0 : Nat) (h0 : Heap)  (B : own_W Z h0 n0 x0 kA sA dA pA .null K Sz D cnt fs mx am ix la) (hc3 : cnt ≤ 3) :
    MetFree l (⟨"com/example/strati/strati/sim/WriteBuffer", "holds", "(J)Z"⟩ : MethodName) (head1 (Jvm.Cond.code (⟨"com/example/strati/strati/sim/WriteBuffer", "holds", "(J)Z"⟩ : MethodName) prog_67_method_4_code 3 (some .boolean) :: ws) ({ frames := 4, cells := 1, slots := 16, locals := 60 } : Room)) (fun a U => a = #[(.ref x0), (.long x1)] ∧ Z.Warmed39 U.vm ∧ U.heap = h0) (fun _ _ _ _ _ => True) (fun _ U o U' => ∃ v L, o = .returned v ∧ own_F10n Z x0 x1 kA sA dA pA K Sz D cnt fs mx am la ix n0 h0 v U'.heap L ∧ FrameEnd U o U' L ({ frames := 4, cells := 1, slots := 16, locals := 60 } : Room).cells ({ frames := 4, cells := 1, slots := 16, locals := 60 } : Room).slots) := by
  refine MetFree.of_bodySF (plainFor_of_name pn_10) hisR ?_
  intro p e s m args below meth c s₁ Bd hml0 hP hK
  obtain ⟨rfl, hZ, hh⟩ := hP
  have hx := Bd.exec
  have hby := Bd.bytes
  have hml : c.maxLocals = 3 := hml0
  have hown : s.vm.findClass "com/example/strati/strati/sim/WriteBuffer" = some m.cls := findClass_of_methodNamed Bd.named
  have hnm := (name_of_methodNamed Bd.named Bd.method).1
  have X0 : Stand p l e ({ frames := 4, cells := 1, slots := 16, locals := 60 } : Room) s m #[(.ref x0), (.long x1)] below meth c s₁ [] 0 0 := Stand.of_body Bd
  have e0 : s₁.heap = h0 := by rw [← hh, Bd.state]; rfl
  have BC := B
  obtain ⟨E0, P0, P1, P2, P3, P4, P5, P6, P7, P8, P9, P10, R0, R1, R2, R3, n1, n2, n3, n4, n5, n6, n7, n8, n9, n10, gw0, gw1, gw2, gw3, hmx, ham⟩ := BC
  have Z0 : n0 ≤ h0.size := Nat.le_trans gw0 (Nat.le_of_lt E0.lt)
  have N0 := Fr.nil n0
  have K0 : Keep h0 h0 [x0] := Keep.refl h0 [x0]
  have hgo : own_Goes p e below s (own_F10n Z x0 x1 kA sA dA pA K Sz D cnt fs mx am la ix n0 h0) 1 16 (s₁.setTop (mkF m 0 #[.val (.ref x0), .val (.long x1), .second] [])) := by
    refine own_Goes.step (fun tq kq => XS.aloadN X0.here hx rfl (hb hby d10_0) rfl rfl kq) ?_
    show own_Goes _ _ _ _ _ _ _ (s₁.setTop (mkF m 1 #[.val (.ref x0), .val (.long x1), .second] [(.ref x0)]))
    obtain ⟨T1, X1, e1, st1⟩ := getF X0 hx hZ hown (host := "") (Or.inl (own_at hw 61 rfl)) Via.refl e0 P8 (g := (mkF m 1 #[.val (.ref x0), .val (.long x1), .second] [(.ref x0)])) rfl rfl (hb hby d10_1)
    refine own_Goes.step st1 ?_
    show own_Goes _ _ _ _ _ _ _ (T1.setTop (mkF m 4 #[.val (.ref x0), .val (.long x1), .second] [.null]))
    refine own_Goes.step (fun tq kq => XT.ifnonnullNo X1.here hx rfl (hb hby d10_4) rfl kq) ?_
    show own_Goes _ _ _ _ _ _ _ (T1.setTop (mkF m 7 #[.val (.ref x0), .val (.long x1), .second] []))
    refine own_Goes.step (fun tq kq => XS.aloadN X1.here hx rfl (hb hby d10_7) rfl rfl kq) ?_
    show own_Goes _ _ _ _ _ _ _ (T1.setTop (mkF m 8 #[.val (.ref x0), .val (.long x1), .second] [(.ref x0)]))
    obtain ⟨w3, T3, L3, q3, Y3, st3⟩ := own_priv X1 hx hZ e1 E0 hown (own_at hw 80 rfl) (own_at hw 82 rfl) (own_at hw 1 rfl) (own_at hw 81 rfl) (own_at hw 2 rfl) (own_at hw 83 rfl) (by decide) (own_m11 l Z a0 hw [] x0 kA sA dA pA K Sz D cnt fs mx am la ix n0 h0 B hc3) (by decide) (W := 0) (by decide) (by decide) (by decide) (g := (mkF m 8 #[.val (.ref x0), .val (.long x1), .second] [(.ref x0)])) rfl (by rw [hml]; rfl) (argsL := []) (rest := []) (lenOf pd_11 rfl) rfl (by show 2 * 0 + _ ≤ _; exact Nat.le_of_eq rfl) (hb hby d10_8)
    obtain ⟨rfl, N3, K3, iA, S, ixn, lb, hbl, hiA, B2, I2⟩ := q3
    have Nn3 := Fr.app N0 N3
    have Kn3 := K0.trans K3 (own_kt (Or.inl List.mem_cons_self))
    have IV := own_bld_inv hc3 hbl
    obtain ⟨tt, htt, hm⟩ := IV.find hc3 x1
    have hr := IV.says hm
    have B2c := B2
    have I2c := I2
    obtain ⟨E1, Q0, Q1, Q2, Q3, Q4, Q5, Q6, Q7, Q8, Q9, Q10, U0, -⟩ := B2c
    obtain ⟨UI, -⟩ := I2c
    refine own_Goes.step st3 ?_
    show own_Goes _ _ _ _ _ _ _ (T3.setTop (mkF m 11 #[.val (.ref x0), .val (.long x1), .second] []))
    refine own_Goes.step (fun tq kq => XS.aloadN Y3.here hx rfl (hb hby d10_11) rfl rfl kq) ?_
    show own_Goes _ _ _ _ _ _ _ (T3.setTop (mkF m 12 #[.val (.ref x0), .val (.long x1), .second] [(.ref x0)]))
    obtain ⟨T4, X4, e4, st4⟩ := getF Y3 hx hZ hown (host := "") (Or.inl (own_at hw 61 rfl)) Via.refl rfl Q8 (g := (mkF m 12 #[.val (.ref x0), .val (.long x1), .second] [(.ref x0)])) rfl rfl (hb hby d10_12)
    refine own_Goes.step st4 ?_
    show own_Goes _ _ _ _ _ _ _ (T4.setTop (mkF m 15 #[.val (.ref x0), .val (.long x1), .second] [(.ref iA)]))
    refine own_Goes.step (fun tq kq => XS.aloadN X4.here hx rfl (hb hby d10_15) rfl rfl kq) ?_
    show own_Goes _ _ _ _ _ _ _ (T4.setTop (mkF m 16 #[.val (.ref x0), .val (.long x1), .second] [(.ref x0), (.ref iA)]))
    refine own_Goes.step (fun tq kq => XS.aloadN X4.here hx rfl (hb hby d10_16) rfl rfl kq) ?_
    show own_Goes _ _ _ _ _ _ _ (T4.setTop (mkF m 17 #[.val (.ref x0), .val (.long x1), .second] [(.ref x0), (.ref x0), (.ref iA)]))
    obtain ⟨T5, X5, e5, st5⟩ := getF X4 hx hZ hown (host := "") (Or.inl (own_at hw 61 rfl)) Via.refl e4 Q8 (g := (mkF m 17 #[.val (.ref x0), .val (.long x1), .second] [(.ref x0), (.ref x0), (.ref iA)])) rfl rfl (hb hby d10_17)
    refine own_Goes.step st5 ?_
    show own_Goes _ _ _ _ _ _ _ (T5.setTop (mkF m 20 #[.val (.ref x0), .val (.long x1), .second] [(.ref iA), (.ref x0), (.ref iA)]))
    refine own_Goes.step (fun tq kq => XT.lloadN X5.here hx rfl (hb hby d10_20) rfl kq) ?_
    show own_Goes _ _ _ _ _ _ _ (T5.setTop (mkF m 21 #[.val (.ref x0), .val (.long x1), .second] [(.long x1), (.ref iA), (.ref x0), (.ref iA)]))
    obtain ⟨w6, T6, L6, q6, Y6, st6⟩ := own_priv X5 hx hZ e5 E1 hown (own_at hw 84 rfl) (own_at hw 86 rfl) (own_at hw 1 rfl) (own_at hw 85 rfl) (own_at hw 2 rfl) (own_at hw 87 rfl) (by decide) (own_m12 l Z a0 hw [] x0 iA x1 kA K S tt n0 T3.heap Q0 U0 UI (IV.1.ok (by omega)) hm) (by decide) (W := 1) (by decide) (by decide) (by decide) (g := (mkF m 21 #[.val (.ref x0), .val (.long x1), .second] [(.long x1), (.ref iA), (.ref x0), (.ref iA)])) rfl (by rw [hml]; rfl) (argsL := [(.ref iA), (.long x1)]) (rest := [(.ref iA)]) (lenOf pd_12 rfl) rfl (by show 2 * 0 + _ ≤ _; exact Nat.le_of_eq rfl) (hb hby d10_21)
    obtain ⟨e6, X6⟩ := own_clean q6 Y6 rfl rfl
    obtain ⟨rfl, -, -⟩ := q6
    refine own_Goes.step st6 ?_
    show own_Goes _ _ _ _ _ _ _ (T6.setTop (mkF m 24 #[.val (.ref x0), .val (.long x1), .second] [(.int (Int32.ofNat tt)), (.ref iA)]))
    refine own_Goes.step (own_iald X6 hx hZ e6 UI (i := tt) (own_toI (by omega)) htt (v := (.int (S tt))) rfl (g := (mkF m 24 #[.val (.ref x0), .val (.long x1), .second] [(.int (Int32.ofNat tt)), (.ref iA)])) rfl rfl (hb hby d10_24)) ?_
    show own_Goes _ _ _ _ _ _ _ (T6.setTop (mkF m 25 #[.val (.ref x0), .val (.long x1), .second] [(.int (S tt))]))
    by_cases hc8 : (S tt) = (0 : Int32)
    · refine own_Goes.step (fun tq kq => XS.ifYes X6.here hx rfl (pc0 := 25) (pc' := 32) rfl (hb hby d10_25) rfl (XT.i0_eq_t hc8) (by decide) (by decide) kq) ?_
      show own_Goes _ _ _ _ _ _ _ (T6.setTop (mkF m 32 #[.val (.ref x0), .val (.long x1), .second] []))
      refine own_Goes.step (fun tq kq => XT.iconstV X6.here hx rfl (0 : Int32) (hb hby d10_32) (by decide) kq) ?_
      show own_Goes _ _ _ _ _ _ _ (T6.setTop (mkF m 33 #[.val (.ref x0), .val (.long x1), .second] [(.int (0 : Int32))]))
      refine own_endN X6 hx Bd.notSynchronized (t := .boolean) Bd.returns (by simp) (hb hby d10_33) ?_ (by decide) (by decide)
      show own_F10n Z x0 x1 kA sA dA pA K Sz D cnt fs mx am la ix n0 h0 _ T6.heap _
      rw [e6]
      refine ⟨congrArg (fun z => some (Value.int z)) (own_bi0 hr hc8), Nn3, Kn3, iA, S, ixn, lb, hbl, hiA, B2, I2⟩
    · refine own_Goes.step (fun tq kq => XS.ifNo X6.here hx rfl (hb hby d10_25) rfl (XT.i0_eq_f hc8) kq) ?_
      show own_Goes _ _ _ _ _ _ _ (T6.setTop (mkF m 28 #[.val (.ref x0), .val (.long x1), .second] []))
      refine own_Goes.step (fun tq kq => XT.iconstV X6.here hx rfl (1 : Int32) (hb hby d10_28) (by decide) kq) ?_
      show own_Goes _ _ _ _ _ _ _ (T6.setTop (mkF m 29 #[.val (.ref x0), .val (.long x1), .second] [(.int (1 : Int32))]))
      refine own_Goes.step (fun tq kq => XS.goto X6.here hx rfl (pc0 := 29) (pc' := 33) rfl (hb hby d10_29) (by decide) (by decide) kq) ?_
      show own_Goes _ _ _ _ _ _ _ (T6.setTop (mkF m 33 #[.val (.ref x0), .val (.long x1), .second] [(.int (1 : Int32))]))
      refine own_endN X6 hx Bd.notSynchronized (t := .boolean) Bd.returns (by simp) (hb hby d10_33) ?_ (by decide) (by decide)
      show own_F10n Z x0 x1 kA sA dA pA K Sz D cnt fs mx am la ix n0 h0 _ T6.heap _
      rw [e6]
      refine ⟨congrArg (fun z => some (Value.int z)) (own_bi1 hr hc8), Nn3, Kn3, iA, S, ixn, lb, hbl, hiA, B2, I2⟩
  obtain ⟨t2, o2, q1, q2, q3, q4⟩ := hgo
  exact ⟨t2, o2, castTop (ef_10 m x0 x1) q1, q2, q3, q4⟩
def own_F10s (Z : State) (x0 : Addr) (x1 : Int64) (kA sA dA pA : Addr) (K Sz : Nat → Int64) (D : Nat → Int32) (cnt : Nat) (fs : Int64) (mx am la : Int32) (ix : Int32) (iA : Addr) (S : Nat → Int32) (tt : Nat) (rb : Bool) (n0 : Nat) (h0 : Heap) (v : Option Value) (h : Heap) (L : List Loc) : Prop := v = some (.int (own_bi rb)) ∧ L = [] ∧ h = h0
set_option maxRecDepth 65536 in
set_option maxHeartbeats 40000000 in
theorem own_m10s (l : Launch) (Z : State) (a0 : Array Value) (hw : ∀ d ∈ tables_1, d.before a0 Z = true) (ws : List Jvm.Cond) (x0 : Addr) (x1 : Int64) (kA sA dA pA : Addr) (K Sz : Nat → Int64) (D : Nat → Int32) (cnt : Nat) (fs : Int64) (mx am la : Int32) (ix : Int32) (iA : Addr) (S : Nat → Int32) (tt : Nat) (rb : Bool) (n0 : Nat) (h0 : Heap)  (B : own_W Z h0 n0 x0 kA sA dA pA (.ref iA) K Sz D cnt fs mx am ix la) (I : own_I Z h0 n0 x0 kA sA dA pA iA S) (hS : own_OK S) (hm : own_sl K S x1 16 (own_h x1) = some tt) (htt : tt < 16) (hr : ¬ S tt = (0 : Int32) ↔ rb = true) :
    MetFree l (⟨"com/example/strati/strati/sim/WriteBuffer", "holds", "(J)Z"⟩ : MethodName) (head1 (Jvm.Cond.code (⟨"com/example/strati/strati/sim/WriteBuffer", "holds", "(J)Z"⟩ : MethodName) prog_67_method_4_code 3 (some .boolean) :: ws) ({ frames := 2, cells := 0, slots := 0, locals := 31 } : Room)) (fun a U => a = #[(.ref x0), (.long x1)] ∧ Z.Warmed39 U.vm ∧ U.heap = h0) (fun _ _ _ _ _ => True) (fun _ U o U' => ∃ v L, o = .returned v ∧ own_F10s Z x0 x1 kA sA dA pA K Sz D cnt fs mx am la ix iA S tt rb n0 h0 v U'.heap L ∧ FrameEnd U o U' L ({ frames := 2, cells := 0, slots := 0, locals := 31 } : Room).cells ({ frames := 2, cells := 0, slots := 0, locals := 31 } : Room).slots) := by
  refine MetFree.of_bodySF (plainFor_of_name pn_10) hisR ?_
  intro p e s m args below meth c s₁ Bd hml0 hP hK
  obtain ⟨rfl, hZ, hh⟩ := hP
  have hx := Bd.exec
  have hby := Bd.bytes
  have hml : c.maxLocals = 3 := hml0
  have hown : s.vm.findClass "com/example/strati/strati/sim/WriteBuffer" = some m.cls := findClass_of_methodNamed Bd.named
  have hnm := (name_of_methodNamed Bd.named Bd.method).1
  have X0 : Stand p l e ({ frames := 2, cells := 0, slots := 0, locals := 31 } : Room) s m #[(.ref x0), (.long x1)] below meth c s₁ [] 0 0 := Stand.of_body Bd
  have e0 : s₁.heap = h0 := by rw [← hh, Bd.state]; rfl
  obtain ⟨E0, P0, P1, P2, P3, P4, P5, P6, P7, P8, P9, P10, R0, R1, R2, R3, n1, n2, n3, n4, n5, n6, n7, n8, n9, n10, gw0, gw1, gw2, gw3, hmx, ham⟩ := B
  obtain ⟨RI, m1, m2, m3, m4, m5, gi⟩ := I
  have Z0 : n0 ≤ h0.size := Nat.le_trans gw0 (Nat.le_of_lt E0.lt)
  have N0 := Fr.nil n0
  have K0 : Keep h0 h0 [x0, kA, sA, dA, iA] := Keep.refl h0 [x0, kA, sA, dA, iA]
  have hgo : own_Goes p e below s (own_F10s Z x0 x1 kA sA dA pA K Sz D cnt fs mx am la ix iA S tt rb n0 h0) 0 0 (s₁.setTop (mkF m 0 #[.val (.ref x0), .val (.long x1), .second] [])) := by
    refine own_Goes.step (fun tq kq => XS.aloadN X0.here hx rfl (hb hby d10_0) rfl rfl kq) ?_
    show own_Goes _ _ _ _ _ _ _ (s₁.setTop (mkF m 1 #[.val (.ref x0), .val (.long x1), .second] [(.ref x0)]))
    obtain ⟨T1, X1, e1, st1⟩ := getF X0 hx hZ hown (host := "") (Or.inl (own_at hw 61 rfl)) Via.refl e0 P8 (g := (mkF m 1 #[.val (.ref x0), .val (.long x1), .second] [(.ref x0)])) rfl rfl (hb hby d10_1)
    refine own_Goes.step st1 ?_
    show own_Goes _ _ _ _ _ _ _ (T1.setTop (mkF m 4 #[.val (.ref x0), .val (.long x1), .second] [(.ref iA)]))
    refine own_Goes.step (fun tq kq => XT.ifnonnullYes X1.here hx rfl (pc0 := 4) (pc' := 11) rfl (hb hby d10_4) rfl (by decide) (by decide) kq) ?_
    show own_Goes _ _ _ _ _ _ _ (T1.setTop (mkF m 11 #[.val (.ref x0), .val (.long x1), .second] []))
    refine own_Goes.step (fun tq kq => XS.aloadN X1.here hx rfl (hb hby d10_11) rfl rfl kq) ?_
    show own_Goes _ _ _ _ _ _ _ (T1.setTop (mkF m 12 #[.val (.ref x0), .val (.long x1), .second] [(.ref x0)]))
    obtain ⟨T3, X3, e3, st3⟩ := getF X1 hx hZ hown (host := "") (Or.inl (own_at hw 61 rfl)) Via.refl e1 P8 (g := (mkF m 12 #[.val (.ref x0), .val (.long x1), .second] [(.ref x0)])) rfl rfl (hb hby d10_12)
    refine own_Goes.step st3 ?_
    show own_Goes _ _ _ _ _ _ _ (T3.setTop (mkF m 15 #[.val (.ref x0), .val (.long x1), .second] [(.ref iA)]))
    refine own_Goes.step (fun tq kq => XS.aloadN X3.here hx rfl (hb hby d10_15) rfl rfl kq) ?_
    show own_Goes _ _ _ _ _ _ _ (T3.setTop (mkF m 16 #[.val (.ref x0), .val (.long x1), .second] [(.ref x0), (.ref iA)]))
    refine own_Goes.step (fun tq kq => XS.aloadN X3.here hx rfl (hb hby d10_16) rfl rfl kq) ?_
    show own_Goes _ _ _ _ _ _ _ (T3.setTop (mkF m 17 #[.val (.ref x0), .val (.long x1), .second] [(.ref x0), (.ref x0), (.ref iA)]))
    obtain ⟨T4, X4, e4, st4⟩ := getF X3 hx hZ hown (host := "") (Or.inl (own_at hw 61 rfl)) Via.refl e3 P8 (g := (mkF m 17 #[.val (.ref x0), .val (.long x1), .second] [(.ref x0), (.ref x0), (.ref iA)])) rfl rfl (hb hby d10_17)
    refine own_Goes.step st4 ?_
    show own_Goes _ _ _ _ _ _ _ (T4.setTop (mkF m 20 #[.val (.ref x0), .val (.long x1), .second] [(.ref iA), (.ref x0), (.ref iA)]))
    refine own_Goes.step (fun tq kq => XT.lloadN X4.here hx rfl (hb hby d10_20) rfl kq) ?_
    show own_Goes _ _ _ _ _ _ _ (T4.setTop (mkF m 21 #[.val (.ref x0), .val (.long x1), .second] [(.long x1), (.ref iA), (.ref x0), (.ref iA)]))
    obtain ⟨w5, T5, L5, q5, Y5, st5⟩ := own_priv X4 hx hZ e4 E0 hown (own_at hw 84 rfl) (own_at hw 86 rfl) (own_at hw 1 rfl) (own_at hw 85 rfl) (own_at hw 2 rfl) (own_at hw 87 rfl) (by decide) (own_m12 l Z a0 hw [] x0 iA x1 kA K S tt n0 h0 P0 R0 RI hS hm) (by decide) (W := 1) (by decide) (by decide) (by decide) (g := (mkF m 21 #[.val (.ref x0), .val (.long x1), .second] [(.long x1), (.ref iA), (.ref x0), (.ref iA)])) rfl (by rw [hml]; rfl) (argsL := [(.ref iA), (.long x1)]) (rest := [(.ref iA)]) (lenOf pd_12 rfl) rfl (by show 2 * 0 + _ ≤ _; exact Nat.le_of_eq rfl) (hb hby d10_21)
    obtain ⟨e5, X5⟩ := own_clean q5 Y5 rfl rfl
    obtain ⟨rfl, -, -⟩ := q5
    refine own_Goes.step st5 ?_
    show own_Goes _ _ _ _ _ _ _ (T5.setTop (mkF m 24 #[.val (.ref x0), .val (.long x1), .second] [(.int (Int32.ofNat tt)), (.ref iA)]))
    refine own_Goes.step (own_iald X5 hx hZ e5 RI (i := tt) (own_toI (by omega)) htt (v := (.int (S tt))) rfl (g := (mkF m 24 #[.val (.ref x0), .val (.long x1), .second] [(.int (Int32.ofNat tt)), (.ref iA)])) rfl rfl (hb hby d10_24)) ?_
    show own_Goes _ _ _ _ _ _ _ (T5.setTop (mkF m 25 #[.val (.ref x0), .val (.long x1), .second] [(.int (S tt))]))
    by_cases hc7 : (S tt) = (0 : Int32)
    · refine own_Goes.step (fun tq kq => XS.ifYes X5.here hx rfl (pc0 := 25) (pc' := 32) rfl (hb hby d10_25) rfl (XT.i0_eq_t hc7) (by decide) (by decide) kq) ?_
      show own_Goes _ _ _ _ _ _ _ (T5.setTop (mkF m 32 #[.val (.ref x0), .val (.long x1), .second] []))
      refine own_Goes.step (fun tq kq => XT.iconstV X5.here hx rfl (0 : Int32) (hb hby d10_32) (by decide) kq) ?_
      show own_Goes _ _ _ _ _ _ _ (T5.setTop (mkF m 33 #[.val (.ref x0), .val (.long x1), .second] [(.int (0 : Int32))]))
      refine own_endN X5 hx Bd.notSynchronized (t := .boolean) Bd.returns (by simp) (hb hby d10_33) ?_ (by decide) (by decide)
      show own_F10s Z x0 x1 kA sA dA pA K Sz D cnt fs mx am la ix iA S tt rb n0 h0 _ T5.heap _
      rw [e5]
      exact ⟨congrArg (fun z => some (Value.int z)) (own_bi0 hr hc7), rfl, rfl⟩
    · refine own_Goes.step (fun tq kq => XS.ifNo X5.here hx rfl (hb hby d10_25) rfl (XT.i0_eq_f hc7) kq) ?_
      show own_Goes _ _ _ _ _ _ _ (T5.setTop (mkF m 28 #[.val (.ref x0), .val (.long x1), .second] []))
      refine own_Goes.step (fun tq kq => XT.iconstV X5.here hx rfl (1 : Int32) (hb hby d10_28) (by decide) kq) ?_
      show own_Goes _ _ _ _ _ _ _ (T5.setTop (mkF m 29 #[.val (.ref x0), .val (.long x1), .second] [(.int (1 : Int32))]))
      refine own_Goes.step (fun tq kq => XS.goto X5.here hx rfl (pc0 := 29) (pc' := 33) rfl (hb hby d10_29) (by decide) (by decide) kq) ?_
      show own_Goes _ _ _ _ _ _ _ (T5.setTop (mkF m 33 #[.val (.ref x0), .val (.long x1), .second] [(.int (1 : Int32))]))
      refine own_endN X5 hx Bd.notSynchronized (t := .boolean) Bd.returns (by simp) (hb hby d10_33) ?_ (by decide) (by decide)
      show own_F10s Z x0 x1 kA sA dA pA K Sz D cnt fs mx am la ix iA S tt rb n0 h0 _ T5.heap _
      rw [e5]
      exact ⟨congrArg (fun z => some (Value.int z)) (own_bi1 hr hc7), rfl, rfl⟩
  obtain ⟨t2, o2, q1, q2, q3, q4⟩ := hgo
  exact ⟨t2, o2, castTop (ef_10 m x0 x1) q1, q2, q3, q4⟩
theorem own_d7 {d : Int32} (h : d = 0 ∨ d = 1) : own_f7 d = 0 ∨ own_f7 d = 1 := by rcases h with rfl | rfl <;> decide
theorem own_d7e {d : Int32} (h : d = 0 ∨ d = 1) : own_f7 d = d := by rcases h with rfl | rfl <;> decide
theorem d5_0 : decode prog_67_method_2_code 0 = .ok (.aload_n 0, 1) := by decide +kernel
theorem d5_1 : decode prog_67_method_2_code 1 = .ok (.getfield 28, 3) := by decide +kernel
theorem d5_4 : decode prog_67_method_2_code 4 = .ok (.aload_n 0, 1) := by decide +kernel
theorem d5_5 : decode prog_67_method_2_code 5 = .ok (.getfield 9, 3) := by decide +kernel
theorem d5_8 : decode prog_67_method_2_code 8 = .ok (.arraylength, 1) := by decide +kernel
theorem d5_9 : decode prog_67_method_2_code 9 = .ok (.if_icmp .ne 7, 3) := by decide +kernel
theorem d5_12 : decode prog_67_method_2_code 12 = .ok (.aload_n 0, 1) := by decide +kernel
theorem d5_13 : decode prog_67_method_2_code 13 = .ok (.invokevirtual 31, 3) := by decide +kernel
theorem d5_16 : decode prog_67_method_2_code 16 = .ok (.aload_n 0, 1) := by decide +kernel
theorem d5_17 : decode prog_67_method_2_code 17 = .ok (.getfield 28, 3) := by decide +kernel
theorem d5_20 : decode prog_67_method_2_code 20 = .ok (.ifCond .ne 21, 3) := by decide +kernel
theorem d5_23 : decode prog_67_method_2_code 23 = .ok (.aload_n 0, 1) := by decide +kernel
theorem d5_24 : decode prog_67_method_2_code 24 = .ok (.aload_n 3, 1) := by decide +kernel
theorem d5_25 : decode prog_67_method_2_code 25 = .ok (.invokevirtual 34, 3) := by decide +kernel
theorem d5_28 : decode prog_67_method_2_code 28 = .ok (.putfield 40, 3) := by decide +kernel
theorem d5_31 : decode prog_67_method_2_code 31 = .ok (.aload_n 0, 1) := by decide +kernel
theorem d5_32 : decode prog_67_method_2_code 32 = .ok (.iconst 0, 1) := by decide +kernel
theorem d5_33 : decode prog_67_method_2_code 33 = .ok (.putfield 44, 3) := by decide +kernel
theorem d5_36 : decode prog_67_method_2_code 36 = .ok (.aload_n 0, 1) := by decide +kernel
theorem d5_37 : decode prog_67_method_2_code 37 = .ok (.iconst 0, 1) := by decide +kernel
theorem d5_38 : decode prog_67_method_2_code 38 = .ok (.putfield 48, 3) := by decide +kernel
theorem d5_41 : decode prog_67_method_2_code 41 = .ok (.aload_n 0, 1) := by decide +kernel
theorem d5_42 : decode prog_67_method_2_code 42 = .ok (.dup, 1) := by decide +kernel
theorem d5_43 : decode prog_67_method_2_code 43 = .ok (.getfield 44, 3) := by decide +kernel
theorem d5_46 : decode prog_67_method_2_code 46 = .ok (.aload_n 3, 1) := by decide +kernel
theorem d5_47 : decode prog_67_method_2_code 47 = .ok (.invokevirtual 34, 3) := by decide +kernel
theorem d5_50 : decode prog_67_method_2_code 50 = .ok (.aload_n 0, 1) := by decide +kernel
theorem d5_51 : decode prog_67_method_2_code 51 = .ok (.getfield 40, 3) := by decide +kernel
theorem d5_54 : decode prog_67_method_2_code 54 = .ok (.lcmp, 1) := by decide +kernel
theorem d5_55 : decode prog_67_method_2_code 55 = .ok (.ifCond .eq 7, 3) := by decide +kernel
theorem d5_58 : decode prog_67_method_2_code 58 = .ok (.iconst 1, 1) := by decide +kernel
theorem d5_59 : decode prog_67_method_2_code 59 = .ok (.goto 4, 3) := by decide +kernel
theorem d5_62 : decode prog_67_method_2_code 62 = .ok (.iconst 0, 1) := by decide +kernel
theorem d5_63 : decode prog_67_method_2_code 63 = .ok (.ior, 1) := by decide +kernel
theorem d5_64 : decode prog_67_method_2_code 64 = .ok (.putfield 44, 3) := by decide +kernel
theorem d5_67 : decode prog_67_method_2_code 67 = .ok (.aload_n 0, 1) := by decide +kernel
theorem d5_68 : decode prog_67_method_2_code 68 = .ok (.dup, 1) := by decide +kernel
theorem d5_69 : decode prog_67_method_2_code 69 = .ok (.getfield 48, 3) := by decide +kernel
theorem d5_72 : decode prog_67_method_2_code 72 = .ok (.aload_n 3, 1) := by decide +kernel
theorem d5_73 : decode prog_67_method_2_code 73 = .ok (.invokevirtual 51, 3) := by decide +kernel
theorem d5_76 : decode prog_67_method_2_code 76 = .ok (.ior, 1) := by decide +kernel
theorem d5_77 : decode prog_67_method_2_code 77 = .ok (.putfield 48, 3) := by decide +kernel
theorem d5_80 : decode prog_67_method_2_code 80 = .ok (.aload_n 0, 1) := by decide +kernel
theorem d5_81 : decode prog_67_method_2_code 81 = .ok (.getfield 9, 3) := by decide +kernel
theorem d5_84 : decode prog_67_method_2_code 84 = .ok (.aload_n 0, 1) := by decide +kernel
theorem d5_85 : decode prog_67_method_2_code 85 = .ok (.getfield 28, 3) := by decide +kernel
theorem d5_88 : decode prog_67_method_2_code 88 = .ok (.lload_n 1, 1) := by decide +kernel
theorem d5_89 : decode prog_67_method_2_code 89 = .ok (.lastore, 1) := by decide +kernel
theorem d5_90 : decode prog_67_method_2_code 90 = .ok (.aload_n 0, 1) := by decide +kernel
theorem d5_91 : decode prog_67_method_2_code 91 = .ok (.getfield 13, 3) := by decide +kernel
theorem d5_94 : decode prog_67_method_2_code 94 = .ok (.aload_n 0, 1) := by decide +kernel
theorem d5_95 : decode prog_67_method_2_code 95 = .ok (.getfield 28, 3) := by decide +kernel
theorem d5_98 : decode prog_67_method_2_code 98 = .ok (.aload_n 3, 1) := by decide +kernel
theorem d5_99 : decode prog_67_method_2_code 99 = .ok (.invokevirtual 34, 3) := by decide +kernel
theorem d5_102 : decode prog_67_method_2_code 102 = .ok (.lastore, 1) := by decide +kernel
theorem d5_103 : decode prog_67_method_2_code 103 = .ok (.aload_n 0, 1) := by decide +kernel
theorem d5_104 : decode prog_67_method_2_code 104 = .ok (.getfield 16, 3) := by decide +kernel
theorem d5_107 : decode prog_67_method_2_code 107 = .ok (.aload_n 0, 1) := by decide +kernel
theorem d5_108 : decode prog_67_method_2_code 108 = .ok (.getfield 28, 3) := by decide +kernel
theorem d5_111 : decode prog_67_method_2_code 111 = .ok (.aload_n 3, 1) := by decide +kernel
theorem d5_112 : decode prog_67_method_2_code 112 = .ok (.invokevirtual 51, 3) := by decide +kernel
theorem d5_115 : decode prog_67_method_2_code 115 = .ok (.bastore, 1) := by decide +kernel
theorem d5_116 : decode prog_67_method_2_code 116 = .ok (.aload_n 0, 1) := by decide +kernel
theorem d5_117 : decode prog_67_method_2_code 117 = .ok (.dup, 1) := by decide +kernel
theorem d5_118 : decode prog_67_method_2_code 118 = .ok (.getfield 28, 3) := by decide +kernel
theorem d5_121 : decode prog_67_method_2_code 121 = .ok (.iconst 1, 1) := by decide +kernel
theorem d5_122 : decode prog_67_method_2_code 122 = .ok (.iadd, 1) := by decide +kernel
theorem d5_123 : decode prog_67_method_2_code 123 = .ok (.putfield 28, 3) := by decide +kernel
theorem d5_126 : decode prog_67_method_2_code 126 = .ok (.aload_n 0, 1) := by decide +kernel
theorem d5_127 : decode prog_67_method_2_code 127 = .ok (.getfield 55, 3) := by decide +kernel
theorem d5_130 : decode prog_67_method_2_code 130 = .ok (.ifnull 13, 3) := by decide +kernel
theorem d5_133 : decode prog_67_method_2_code 133 = .ok (.aload_n 0, 1) := by decide +kernel
theorem d5_134 : decode prog_67_method_2_code 134 = .ok (.aload_n 0, 1) := by decide +kernel
theorem d5_135 : decode prog_67_method_2_code 135 = .ok (.getfield 28, 3) := by decide +kernel
theorem d5_138 : decode prog_67_method_2_code 138 = .ok (.iconst 1, 1) := by decide +kernel
theorem d5_139 : decode prog_67_method_2_code 139 = .ok (.isub, 1) := by decide +kernel
theorem d5_140 : decode prog_67_method_2_code 140 = .ok (.invokevirtual 58, 3) := by decide +kernel
theorem d5_143 : decode prog_67_method_2_code 143 = .ok (.return_, 1) := by decide +kernel
theorem pn_5 : plainName "com/example/strati/strati/sim/WriteBuffer" = true := by first | (simp [plainName, overriddenIn]; done) | decide +kernel
theorem pd_5 : parseMethodDescriptor "(JLcom/example/strati/strati/sim/Entry;)V" = some ⟨[.long, (.object "com/example/strati/strati/sim/Entry")], none⟩ := by decide +kernel
theorem ef_5 (m : MethodId) (x0 : Addr) (x1 : Int64) (x2 : Addr) : entryFrame m #[(.ref x0), (.long x1), (.ref x2)] 4 = mkF m 0 #[.val (.ref x0), .val (.long x1), .second, .val (.ref x2)] [] := by first | (simp [entryFrame, mkF, argsToLocals, Value.category]; done) | rfl
def own_f5n_1 (z fs : Int64) : Int32 := (if (own_f6 z) = fs then (0 : Int32) else (1 : Int32))
def own_F5n (Z : State) (x0 : Addr) (x1 : Int64) (x2 : Addr) (kA sA dA pA : Addr) (K Sz : Nat → Int64) (D : Nat → Int32) (cnt : Nat) (fs : Int64) (mx am la : Int32) (ix : Int32) (z : Int64) (d : Int32) (n0 : Nat) (h0 : Heap) (v : Option Value) (h : Heap) (L : List Loc) : Prop := v = none ∧ Fr n0 L ∧ Keep h0 h [x0, kA, sA, dA] ∧ ∃ (fs1 : Int64) (mx1 am1 : Int32), (cnt = 0 → fs1 = z ∧ mx1 = 0 ∧ am1 = d) ∧ own_W Z h n0 x0 kA sA dA pA .null (own_setJ K cnt x1) (own_setJ Sz cnt z) (own_set D cnt (nar .boolean (own_f7 d))) (cnt + 1) fs1 mx1 am1 ix la
set_option maxRecDepth 65536 in
set_option maxHeartbeats 40000000 in
theorem own_m5n (l : Launch) (Z : State) (a0 : Array Value) (hw : ∀ d ∈ tables_1, d.before a0 Z = true) (ws : List Jvm.Cond) (x0 : Addr) (x1 : Int64) (x2 : Addr) (kA sA dA pA : Addr) (K Sz : Nat → Int64) (D : Nat → Int32) (cnt : Nat) (fs : Int64) (mx am la : Int32) (ix : Int32) (z : Int64) (d : Int32) (n0 : Nat) (h0 : Heap)  (B : own_W Z h0 n0 x0 kA sA dA pA .null K Sz D cnt fs mx am ix la) (EE : Exa Z h0 x2 "com/example/strati/strati/sim/Entry") (PE0 : Fld Z h0 x2 "com/example/strati/strati/sim/Entry" "size" "J" (.long z)) (PE1 : Fld Z h0 x2 "com/example/strati/strati/sim/Entry" "delete" "Z" (.int d)) (hd : d = 0 ∨ d = 1) (x1n : x2 ≠ x0) (x2n : x2 ≠ kA) (x3n : x2 ≠ sA) (x4n : x2 ≠ dA) (x6n : x2 ≠ pA) (hc16 : cnt < 16) :
    MetFree l (⟨"com/example/strati/strati/sim/WriteBuffer", "put", "(JLcom/example/strati/strati/sim/Entry;)V"⟩ : MethodName) (head1 (Jvm.Cond.code (⟨"com/example/strati/strati/sim/WriteBuffer", "put", "(JLcom/example/strati/strati/sim/Entry;)V"⟩ : MethodName) prog_67_method_2_code 4 none :: ws) ({ frames := 1, cells := 0, slots := 0, locals := 14 } : Room)) (fun a U => a = #[(.ref x0), (.long x1), (.ref x2)] ∧ Z.Warmed39 U.vm ∧ U.heap = h0) (fun _ _ _ _ _ => True) (fun _ U o U' => ∃ v L, o = .returned v ∧ own_F5n Z x0 x1 x2 kA sA dA pA K Sz D cnt fs mx am la ix z d n0 h0 v U'.heap L ∧ FrameEnd U o U' L ({ frames := 1, cells := 0, slots := 0, locals := 14 } : Room).cells ({ frames := 1, cells := 0, slots := 0, locals := 14 } : Room).slots) := by
  refine MetFree.of_bodySF (plainFor_of_name pn_5) hisR ?_
  intro p e s m args below meth c s₁ Bd hml0 hP hK
  obtain ⟨rfl, hZ, hh⟩ := hP
  have hx := Bd.exec
  have hby := Bd.bytes
  have hml : c.maxLocals = 4 := hml0
  have hown : s.vm.findClass "com/example/strati/strati/sim/WriteBuffer" = some m.cls := findClass_of_methodNamed Bd.named
  have hnm := (name_of_methodNamed Bd.named Bd.method).1
  have X0 : Stand p l e ({ frames := 1, cells := 0, slots := 0, locals := 14 } : Room) s m #[(.ref x0), (.long x1), (.ref x2)] below meth c s₁ [] 0 0 := Stand.of_body Bd
  have e0 : s₁.heap = h0 := by rw [← hh, Bd.state]; rfl
  obtain ⟨E0, P0, P1, P2, P3, P4, P5, P6, P7, P8, P9, P10, R0, R1, R2, R3, n1, n2, n3, n4, n5, n6, n7, n8, n9, n10, gw0, gw1, gw2, gw3, hmx, ham⟩ := B
  have Z0 : n0 ≤ h0.size := Nat.le_trans gw0 (Nat.le_of_lt E0.lt)
  have N0 := Fr.nil n0
  have K0 : Keep h0 h0 [x0, kA, sA, dA] := Keep.refl h0 [x0, kA, sA, dA]
  have hgo : own_Goes p e below s (own_F5n Z x0 x1 x2 kA sA dA pA K Sz D cnt fs mx am la ix z d n0 h0) 0 0 (s₁.setTop (mkF m 0 #[.val (.ref x0), .val (.long x1), .second, .val (.ref x2)] [])) := by
    refine own_Goes.step (fun tq kq => XS.aloadN X0.here hx rfl (hb hby d5_0) rfl rfl kq) ?_
    show own_Goes _ _ _ _ _ _ _ (s₁.setTop (mkF m 1 #[.val (.ref x0), .val (.long x1), .second, .val (.ref x2)] [(.ref x0)]))
    obtain ⟨T1, X1, e1, st1⟩ := getF X0 hx hZ hown (host := "") (Or.inl (own_at hw 43 rfl)) Via.refl e0 P4 (g := (mkF m 1 #[.val (.ref x0), .val (.long x1), .second, .val (.ref x2)] [(.ref x0)])) rfl rfl (hb hby d5_1)
    refine own_Goes.step st1 ?_
    show own_Goes _ _ _ _ _ _ _ (T1.setTop (mkF m 4 #[.val (.ref x0), .val (.long x1), .second, .val (.ref x2)] [(.int (Int32.ofNat cnt))]))
    refine own_Goes.step (fun tq kq => XS.aloadN X1.here hx rfl (hb hby d5_4) rfl rfl kq) ?_
    show own_Goes _ _ _ _ _ _ _ (T1.setTop (mkF m 5 #[.val (.ref x0), .val (.long x1), .second, .val (.ref x2)] [(.ref x0), (.int (Int32.ofNat cnt))]))
    obtain ⟨T2, X2, e2, st2⟩ := getF X1 hx hZ hown (host := "") (Or.inl (own_at hw 10 rfl)) Via.refl e1 P0 (g := (mkF m 5 #[.val (.ref x0), .val (.long x1), .second, .val (.ref x2)] [(.ref x0), (.int (Int32.ofNat cnt))])) rfl rfl (hb hby d5_5)
    refine own_Goes.step st2 ?_
    show own_Goes _ _ _ _ _ _ _ (T2.setTop (mkF m 8 #[.val (.ref x0), .val (.long x1), .second, .val (.ref x2)] [(.ref kA), (.int (Int32.ofNat cnt))]))
    refine own_Goes.step (own_alen X2 hx hZ e2 R0 (z := (16 : Int32)) (by decide) (g := (mkF m 8 #[.val (.ref x0), .val (.long x1), .second, .val (.ref x2)] [(.ref kA), (.int (Int32.ofNat cnt))])) rfl rfl (hb hby d5_8)) ?_
    show own_Goes _ _ _ _ _ _ _ (T2.setTop (mkF m 9 #[.val (.ref x0), .val (.long x1), .second, .val (.ref x2)] [(.int (16 : Int32)), (.int (Int32.ofNat cnt))]))
    refine own_Goes.step (fun tq kq => XS.icmpYes X2.here hx rfl (pc0 := 9) (pc' := 16) rfl (hb hby d5_9) rfl (XT.ii_ne_t (own_c16 hc16)) (by decide) (by decide) kq) ?_
    show own_Goes _ _ _ _ _ _ _ (T2.setTop (mkF m 16 #[.val (.ref x0), .val (.long x1), .second, .val (.ref x2)] []))
    refine own_Goes.step (fun tq kq => XS.aloadN X2.here hx rfl (hb hby d5_16) rfl rfl kq) ?_
    show own_Goes _ _ _ _ _ _ _ (T2.setTop (mkF m 17 #[.val (.ref x0), .val (.long x1), .second, .val (.ref x2)] [(.ref x0)]))
    obtain ⟨T4, X4, e4, st4⟩ := getF X2 hx hZ hown (host := "") (Or.inl (own_at hw 43 rfl)) Via.refl e2 P4 (g := (mkF m 17 #[.val (.ref x0), .val (.long x1), .second, .val (.ref x2)] [(.ref x0)])) rfl rfl (hb hby d5_17)
    refine own_Goes.step st4 ?_
    show own_Goes _ _ _ _ _ _ _ (T4.setTop (mkF m 20 #[.val (.ref x0), .val (.long x1), .second, .val (.ref x2)] [(.int (Int32.ofNat cnt))]))
    by_cases hc5 : (Int32.ofNat cnt) = (0 : Int32)
    · refine own_Goes.step (fun tq kq => XS.ifNo X4.here hx rfl (hb hby d5_20) rfl (XT.i0_ne_f hc5) kq) ?_
      show own_Goes _ _ _ _ _ _ _ (T4.setTop (mkF m 23 #[.val (.ref x0), .val (.long x1), .second, .val (.ref x2)] []))
      refine own_Goes.step (fun tq kq => XS.aloadN X4.here hx rfl (hb hby d5_23) rfl rfl kq) ?_
      show own_Goes _ _ _ _ _ _ _ (T4.setTop (mkF m 24 #[.val (.ref x0), .val (.long x1), .second, .val (.ref x2)] [(.ref x0)]))
      refine own_Goes.step (fun tq kq => XS.aloadN X4.here hx rfl (hb hby d5_24) rfl rfl kq) ?_
      show own_Goes _ _ _ _ _ _ _ (T4.setTop (mkF m 25 #[.val (.ref x0), .val (.long x1), .second, .val (.ref x2)] [(.ref x2), (.ref x0)]))
      obtain ⟨w6, T6, L6, q6, Y6, st6⟩ := own_virt X4 hx hZ e4 EE hown (own_at hw 45 rfl) (own_at hw 46 rfl) (own_at hw 48 rfl) (own_at hw 47 rfl) (own_at hw 24 rfl) (own_at hw 49 rfl) (by decide) (own_m6 l Z a0 hw [] x2 z h0 PE0 ) (by decide) (W := 1) (by decide) (by decide) (by decide) (g := (mkF m 25 #[.val (.ref x0), .val (.long x1), .second, .val (.ref x2)] [(.ref x2), (.ref x0)])) rfl (by rw [hml]; rfl) (argsL := []) (rest := [(.ref x0)]) (lenOf pd_6 rfl) rfl (by show 2 * 0 + _ ≤ _; exact Nat.le_of_eq rfl) (hb hby d5_25)
      obtain ⟨e6, X6⟩ := own_clean q6 Y6 rfl rfl
      obtain ⟨rfl, -, -⟩ := q6
      refine own_Goes.step st6 ?_
      show own_Goes _ _ _ _ _ _ _ (T6.setTop (mkF m 28 #[.val (.ref x0), .val (.long x1), .second, .val (.ref x2)] [(.long (own_f6 z)), (.ref x0)]))
      obtain ⟨T7, h7, X7, e7, W7, st7⟩ := putF X6 hx hZ hown (host := "") (Or.inl (own_at hw 50 rfl)) Via.refl e6 (v := (.long (own_f6 z))) P5 E0 (Or.inl (own_at hw 51 rfl)) (own_at hw 1 rfl) (ty := .long) (by decide) rfl rfl (g := (mkF m 28 #[.val (.ref x0), .val (.long x1), .second, .val (.ref x2)] [(.long (own_f6 z)), (.ref x0)])) rfl rfl (hb hby d5_28)
      refine own_Goes.step st7 ?_
      have f8 := E0.wr W7
      have f9 := P0.other W7 (Or.inr (slot_ne (Or.inl (own_at hw 11 rfl)) (Or.inl (own_at hw 51 rfl)) (by decide) (t := (.array .long)) (t' := .long) (by decide) (by decide)))
      have f10 := P1.other W7 (Or.inr (slot_ne (Or.inl (own_at hw 13 rfl)) (Or.inl (own_at hw 51 rfl)) (by decide) (t := (.array .long)) (t' := .long) (by decide) (by decide)))
      have f11 := P2.other W7 (Or.inr (slot_ne (Or.inl (own_at hw 16 rfl)) (Or.inl (own_at hw 51 rfl)) (by decide) (t := (.array .boolean)) (t' := .long) (by decide) (by decide)))
      have f12 := P3.other W7 (Or.inr (slot_ne (Or.inl (own_at hw 19 rfl)) (Or.inl (own_at hw 51 rfl)) (by decide) (t := (.array .int)) (t' := .long) (by decide) (by decide)))
      have f13 := P4.other W7 (Or.inr (slot_ne (Or.inl (own_at hw 44 rfl)) (Or.inl (own_at hw 51 rfl)) (by decide) (t := .int) (t' := .long) (by decide) (by decide)))
      have f14 := P5.same W7
      have f15 := P6.other W7 (Or.inr (slot_ne (Or.inl (own_at hw 53 rfl)) (Or.inl (own_at hw 51 rfl)) (by decide) (t := .boolean) (t' := .long) (by decide) (by decide)))
      have f16 := P7.other W7 (Or.inr (slot_ne (Or.inl (own_at hw 55 rfl)) (Or.inl (own_at hw 51 rfl)) (by decide) (t := .boolean) (t' := .long) (by decide) (by decide)))
      have f17 := P8.other W7 (Or.inr (slot_ne (Or.inl (own_at hw 62 rfl)) (Or.inl (own_at hw 51 rfl)) (by decide) (t := (.array .int)) (t' := .long) (by decide) (by decide)))
      have f18 := P9.other W7 (Or.inr (slot_ne (Or.inl (own_at hw 69 rfl)) (Or.inl (own_at hw 51 rfl)) (by decide) (t := .int) (t' := .long) (by decide) (by decide)))
      have f19 := P10.other W7 (Or.inr (slot_ne (Or.inl (own_at hw 21 rfl)) (Or.inl (own_at hw 51 rfl)) (by decide) (t := .int) (t' := .long) (by decide) (by decide)))
      have f20 := R0.other W7 (Ne.symm n1)
      have f21 := R1.other W7 (Ne.symm n2)
      have f22 := R2.other W7 (Ne.symm n3)
      have f23 := R3.other W7 (Ne.symm n4)
      have f24 := EE.wr W7
      have f25 := PE0.other W7 (Or.inl x1n)
      have f26 := PE1.other W7 (Or.inl x1n)
      have K27 := K0.wr W7 (Or.inl (List.mem_of_getElem? (i := 0) rfl))
      have N28 := Fr.snoc X7 N0 gw0
      have Z29 : n0 ≤ h7.size := Nat.le_trans Z0 (Keep.of_wr W7).1
      show own_Goes _ _ _ _ _ _ _ (T7.setTop (mkF m 31 #[.val (.ref x0), .val (.long x1), .second, .val (.ref x2)] []))
      refine own_Goes.step (fun tq kq => XS.aloadN X7.here hx rfl (hb hby d5_31) rfl rfl kq) ?_
      show own_Goes _ _ _ _ _ _ _ (T7.setTop (mkF m 32 #[.val (.ref x0), .val (.long x1), .second, .val (.ref x2)] [(.ref x0)]))
      refine own_Goes.step (fun tq kq => XT.iconstV X7.here hx rfl (0 : Int32) (hb hby d5_32) (by decide) kq) ?_
      show own_Goes _ _ _ _ _ _ _ (T7.setTop (mkF m 33 #[.val (.ref x0), .val (.long x1), .second, .val (.ref x2)] [(.int (0 : Int32)), (.ref x0)]))
      obtain ⟨T30, h30, X30, e30, W30, st30⟩ := putF X7 hx hZ hown (host := "") (Or.inl (own_at hw 52 rfl)) Via.refl e7 (v := (.int (0 : Int32))) f15 f8 (Or.inl (own_at hw 53 rfl)) (own_at hw 1 rfl) (ty := .boolean) (by decide) rfl rfl (g := (mkF m 33 #[.val (.ref x0), .val (.long x1), .second, .val (.ref x2)] [(.int (0 : Int32)), (.ref x0)])) rfl rfl (hb hby d5_33)
      refine own_Goes.step st30 ?_
      have f31 := f8.wr W30
      have f32 := f9.other W30 (Or.inr (slot_ne (Or.inl (own_at hw 11 rfl)) (Or.inl (own_at hw 53 rfl)) (by decide) (t := (.array .long)) (t' := .boolean) (by decide) (by decide)))
      have f33 := f10.other W30 (Or.inr (slot_ne (Or.inl (own_at hw 13 rfl)) (Or.inl (own_at hw 53 rfl)) (by decide) (t := (.array .long)) (t' := .boolean) (by decide) (by decide)))
      have f34 := f11.other W30 (Or.inr (slot_ne (Or.inl (own_at hw 16 rfl)) (Or.inl (own_at hw 53 rfl)) (by decide) (t := (.array .boolean)) (t' := .boolean) (by decide) (by decide)))
      have f35 := f12.other W30 (Or.inr (slot_ne (Or.inl (own_at hw 19 rfl)) (Or.inl (own_at hw 53 rfl)) (by decide) (t := (.array .int)) (t' := .boolean) (by decide) (by decide)))
      have f36 := f13.other W30 (Or.inr (slot_ne (Or.inl (own_at hw 44 rfl)) (Or.inl (own_at hw 53 rfl)) (by decide) (t := .int) (t' := .boolean) (by decide) (by decide)))
      have f37 := f14.other W30 (Or.inr (slot_ne (Or.inl (own_at hw 51 rfl)) (Or.inl (own_at hw 53 rfl)) (by decide) (t := .long) (t' := .boolean) (by decide) (by decide)))
      have f38 := f15.same W30
      have f39 := f16.other W30 (Or.inr (slot_ne (Or.inl (own_at hw 55 rfl)) (Or.inl (own_at hw 53 rfl)) (by decide) (t := .boolean) (t' := .boolean) (by decide) (by decide)))
      have f40 := f17.other W30 (Or.inr (slot_ne (Or.inl (own_at hw 62 rfl)) (Or.inl (own_at hw 53 rfl)) (by decide) (t := (.array .int)) (t' := .boolean) (by decide) (by decide)))
      have f41 := f18.other W30 (Or.inr (slot_ne (Or.inl (own_at hw 69 rfl)) (Or.inl (own_at hw 53 rfl)) (by decide) (t := .int) (t' := .boolean) (by decide) (by decide)))
      have f42 := f19.other W30 (Or.inr (slot_ne (Or.inl (own_at hw 21 rfl)) (Or.inl (own_at hw 53 rfl)) (by decide) (t := .int) (t' := .boolean) (by decide) (by decide)))
      have f43 := f20.other W30 (Ne.symm n1)
      have f44 := f21.other W30 (Ne.symm n2)
      have f45 := f22.other W30 (Ne.symm n3)
      have f46 := f23.other W30 (Ne.symm n4)
      have f47 := f24.wr W30
      have f48 := f25.other W30 (Or.inl x1n)
      have f49 := f26.other W30 (Or.inl x1n)
      have K50 := K27.wr W30 (Or.inl (List.mem_of_getElem? (i := 0) rfl))
      have N51 := Fr.snoc X30 N28 gw0
      have Z52 : n0 ≤ h30.size := Nat.le_trans Z29 (Keep.of_wr W30).1
      show own_Goes _ _ _ _ _ _ _ (T30.setTop (mkF m 36 #[.val (.ref x0), .val (.long x1), .second, .val (.ref x2)] []))
      refine own_Goes.step (fun tq kq => XS.aloadN X30.here hx rfl (hb hby d5_36) rfl rfl kq) ?_
      show own_Goes _ _ _ _ _ _ _ (T30.setTop (mkF m 37 #[.val (.ref x0), .val (.long x1), .second, .val (.ref x2)] [(.ref x0)]))
      refine own_Goes.step (fun tq kq => XT.iconstV X30.here hx rfl (0 : Int32) (hb hby d5_37) (by decide) kq) ?_
      show own_Goes _ _ _ _ _ _ _ (T30.setTop (mkF m 38 #[.val (.ref x0), .val (.long x1), .second, .val (.ref x2)] [(.int (0 : Int32)), (.ref x0)]))
      obtain ⟨T53, h53, X53, e53, W53, st53⟩ := putF X30 hx hZ hown (host := "") (Or.inl (own_at hw 54 rfl)) Via.refl e30 (v := (.int (0 : Int32))) f39 f31 (Or.inl (own_at hw 55 rfl)) (own_at hw 1 rfl) (ty := .boolean) (by decide) rfl rfl (g := (mkF m 38 #[.val (.ref x0), .val (.long x1), .second, .val (.ref x2)] [(.int (0 : Int32)), (.ref x0)])) rfl rfl (hb hby d5_38)
      refine own_Goes.step st53 ?_
      have f54 := f31.wr W53
      have f55 := f32.other W53 (Or.inr (slot_ne (Or.inl (own_at hw 11 rfl)) (Or.inl (own_at hw 55 rfl)) (by decide) (t := (.array .long)) (t' := .boolean) (by decide) (by decide)))
      have f56 := f33.other W53 (Or.inr (slot_ne (Or.inl (own_at hw 13 rfl)) (Or.inl (own_at hw 55 rfl)) (by decide) (t := (.array .long)) (t' := .boolean) (by decide) (by decide)))
      have f57 := f34.other W53 (Or.inr (slot_ne (Or.inl (own_at hw 16 rfl)) (Or.inl (own_at hw 55 rfl)) (by decide) (t := (.array .boolean)) (t' := .boolean) (by decide) (by decide)))
      have f58 := f35.other W53 (Or.inr (slot_ne (Or.inl (own_at hw 19 rfl)) (Or.inl (own_at hw 55 rfl)) (by decide) (t := (.array .int)) (t' := .boolean) (by decide) (by decide)))
      have f59 := f36.other W53 (Or.inr (slot_ne (Or.inl (own_at hw 44 rfl)) (Or.inl (own_at hw 55 rfl)) (by decide) (t := .int) (t' := .boolean) (by decide) (by decide)))
      have f60 := f37.other W53 (Or.inr (slot_ne (Or.inl (own_at hw 51 rfl)) (Or.inl (own_at hw 55 rfl)) (by decide) (t := .long) (t' := .boolean) (by decide) (by decide)))
      have f61 := f38.other W53 (Or.inr (slot_ne (Or.inl (own_at hw 53 rfl)) (Or.inl (own_at hw 55 rfl)) (by decide) (t := .boolean) (t' := .boolean) (by decide) (by decide)))
      have f62 := f39.same W53
      have f63 := f40.other W53 (Or.inr (slot_ne (Or.inl (own_at hw 62 rfl)) (Or.inl (own_at hw 55 rfl)) (by decide) (t := (.array .int)) (t' := .boolean) (by decide) (by decide)))
      have f64 := f41.other W53 (Or.inr (slot_ne (Or.inl (own_at hw 69 rfl)) (Or.inl (own_at hw 55 rfl)) (by decide) (t := .int) (t' := .boolean) (by decide) (by decide)))
      have f65 := f42.other W53 (Or.inr (slot_ne (Or.inl (own_at hw 21 rfl)) (Or.inl (own_at hw 55 rfl)) (by decide) (t := .int) (t' := .boolean) (by decide) (by decide)))
      have f66 := f43.other W53 (Ne.symm n1)
      have f67 := f44.other W53 (Ne.symm n2)
      have f68 := f45.other W53 (Ne.symm n3)
      have f69 := f46.other W53 (Ne.symm n4)
      have f70 := f47.wr W53
      have f71 := f48.other W53 (Or.inl x1n)
      have f72 := f49.other W53 (Or.inl x1n)
      have K73 := K50.wr W53 (Or.inl (List.mem_of_getElem? (i := 0) rfl))
      have N74 := Fr.snoc X53 N51 gw0
      have Z75 : n0 ≤ h53.size := Nat.le_trans Z52 (Keep.of_wr W53).1
      show own_Goes _ _ _ _ _ _ _ (T53.setTop (mkF m 41 #[.val (.ref x0), .val (.long x1), .second, .val (.ref x2)] []))
      refine own_Goes.step (fun tq kq => XS.aloadN X53.here hx rfl (hb hby d5_41) rfl rfl kq) ?_
      show own_Goes _ _ _ _ _ _ _ (T53.setTop (mkF m 42 #[.val (.ref x0), .val (.long x1), .second, .val (.ref x2)] [(.ref x0)]))
      refine own_Goes.step (fun tq kq => XS.dup X53.here hx rfl (hb hby d5_42) rfl rfl kq) ?_
      show own_Goes _ _ _ _ _ _ _ (T53.setTop (mkF m 43 #[.val (.ref x0), .val (.long x1), .second, .val (.ref x2)] [(.ref x0), (.ref x0)]))
      obtain ⟨T76, X76, e76, st76⟩ := getF X53 hx hZ hown (host := "") (Or.inl (own_at hw 52 rfl)) Via.refl e53 f61 (g := (mkF m 43 #[.val (.ref x0), .val (.long x1), .second, .val (.ref x2)] [(.ref x0), (.ref x0)])) rfl rfl (hb hby d5_43)
      refine own_Goes.step st76 ?_
      show own_Goes _ _ _ _ _ _ _ (T76.setTop (mkF m 46 #[.val (.ref x0), .val (.long x1), .second, .val (.ref x2)] [(.int (0 : Int32)), (.ref x0)]))
      refine own_Goes.step (fun tq kq => XS.aloadN X76.here hx rfl (hb hby d5_46) rfl rfl kq) ?_
      show own_Goes _ _ _ _ _ _ _ (T76.setTop (mkF m 47 #[.val (.ref x0), .val (.long x1), .second, .val (.ref x2)] [(.ref x2), (.int (0 : Int32)), (.ref x0)]))
      obtain ⟨w77, T77, L77, q77, Y77, st77⟩ := own_virt X76 hx hZ e76 f70 hown (own_at hw 45 rfl) (own_at hw 46 rfl) (own_at hw 48 rfl) (own_at hw 47 rfl) (own_at hw 24 rfl) (own_at hw 49 rfl) (by decide) (own_m6 l Z a0 hw [] x2 z h53 f71 ) (by decide) (W := 2) (by decide) (by decide) (by decide) (g := (mkF m 47 #[.val (.ref x0), .val (.long x1), .second, .val (.ref x2)] [(.ref x2), (.int (0 : Int32)), (.ref x0)])) rfl (by rw [hml]; rfl) (argsL := []) (rest := [(.int (0 : Int32)), (.ref x0)]) (lenOf pd_6 rfl) rfl (by show 2 * 0 + _ ≤ _; exact Nat.le_of_eq rfl) (hb hby d5_47)
      obtain ⟨e77, X77⟩ := own_clean q77 Y77 rfl rfl
      obtain ⟨rfl, -, -⟩ := q77
      refine own_Goes.step st77 ?_
      show own_Goes _ _ _ _ _ _ _ (T77.setTop (mkF m 50 #[.val (.ref x0), .val (.long x1), .second, .val (.ref x2)] [(.long (own_f6 z)), (.int (0 : Int32)), (.ref x0)]))
      refine own_Goes.step (fun tq kq => XS.aloadN X77.here hx rfl (hb hby d5_50) rfl rfl kq) ?_
      show own_Goes _ _ _ _ _ _ _ (T77.setTop (mkF m 51 #[.val (.ref x0), .val (.long x1), .second, .val (.ref x2)] [(.ref x0), (.long (own_f6 z)), (.int (0 : Int32)), (.ref x0)]))
      obtain ⟨T78, X78, e78, st78⟩ := getF X77 hx hZ hown (host := "") (Or.inl (own_at hw 50 rfl)) Via.refl e77 f60 (g := (mkF m 51 #[.val (.ref x0), .val (.long x1), .second, .val (.ref x2)] [(.ref x0), (.long (own_f6 z)), (.int (0 : Int32)), (.ref x0)])) rfl rfl (hb hby d5_51)
      refine own_Goes.step st78 ?_
      show own_Goes _ _ _ _ _ _ _ (T78.setTop (mkF m 54 #[.val (.ref x0), .val (.long x1), .second, .val (.ref x2)] [(.long (own_f6 z)), (.long (own_f6 z)), (.int (0 : Int32)), (.ref x0)]))
      refine own_Goes.step (fun tq kq => XT.lcmp X78.here hx rfl (hb hby d5_54) rfl kq) ?_
      show own_Goes _ _ _ _ _ _ _ (T78.setTop (mkF m 55 #[.val (.ref x0), .val (.long x1), .second, .val (.ref x2)] [(.int (XT.cmpL (own_f6 z) (own_f6 z))), (.int (0 : Int32)), (.ref x0)]))
      refine own_Goes.step (fun tq kq => XS.ifYes X78.here hx rfl (pc0 := 55) (pc' := 62) rfl (hb hby d5_55) rfl (XT.ll_eq_t (rfl)) (by decide) (by decide) kq) ?_
      show own_Goes _ _ _ _ _ _ _ (T78.setTop (mkF m 62 #[.val (.ref x0), .val (.long x1), .second, .val (.ref x2)] [(.int (0 : Int32)), (.ref x0)]))
      refine own_Goes.step (fun tq kq => XT.iconstV X78.here hx rfl (0 : Int32) (hb hby d5_62) (by decide) kq) ?_
      show own_Goes _ _ _ _ _ _ _ (T78.setTop (mkF m 63 #[.val (.ref x0), .val (.long x1), .second, .val (.ref x2)] [(.int (0 : Int32)), (.int (0 : Int32)), (.ref x0)]))
      refine own_Goes.step (fun tq kq => XT.ior X78.here hx rfl (hb hby d5_63) rfl kq) ?_
      show own_Goes _ _ _ _ _ _ _ (T78.setTop (mkF m 64 #[.val (.ref x0), .val (.long x1), .second, .val (.ref x2)] [(.int ((0 : Int32) ||| (0 : Int32))), (.ref x0)]))
      obtain ⟨T79, h79, X79, e79, W79, st79⟩ := putF X78 hx hZ hown (host := "") (Or.inl (own_at hw 52 rfl)) Via.refl e78 (v := (.int ((0 : Int32) ||| (0 : Int32)))) f61 f54 (Or.inl (own_at hw 53 rfl)) (own_at hw 1 rfl) (ty := .boolean) (by decide) rfl rfl (g := (mkF m 64 #[.val (.ref x0), .val (.long x1), .second, .val (.ref x2)] [(.int ((0 : Int32) ||| (0 : Int32))), (.ref x0)])) rfl rfl (hb hby d5_64)
      refine own_Goes.step st79 ?_
      have f80 := f54.wr W79
      have f81 := f55.other W79 (Or.inr (slot_ne (Or.inl (own_at hw 11 rfl)) (Or.inl (own_at hw 53 rfl)) (by decide) (t := (.array .long)) (t' := .boolean) (by decide) (by decide)))
      have f82 := f56.other W79 (Or.inr (slot_ne (Or.inl (own_at hw 13 rfl)) (Or.inl (own_at hw 53 rfl)) (by decide) (t := (.array .long)) (t' := .boolean) (by decide) (by decide)))
      have f83 := f57.other W79 (Or.inr (slot_ne (Or.inl (own_at hw 16 rfl)) (Or.inl (own_at hw 53 rfl)) (by decide) (t := (.array .boolean)) (t' := .boolean) (by decide) (by decide)))
      have f84 := f58.other W79 (Or.inr (slot_ne (Or.inl (own_at hw 19 rfl)) (Or.inl (own_at hw 53 rfl)) (by decide) (t := (.array .int)) (t' := .boolean) (by decide) (by decide)))
      have f85 := f59.other W79 (Or.inr (slot_ne (Or.inl (own_at hw 44 rfl)) (Or.inl (own_at hw 53 rfl)) (by decide) (t := .int) (t' := .boolean) (by decide) (by decide)))
      have f86 := f60.other W79 (Or.inr (slot_ne (Or.inl (own_at hw 51 rfl)) (Or.inl (own_at hw 53 rfl)) (by decide) (t := .long) (t' := .boolean) (by decide) (by decide)))
      have f87 := f61.same W79
      have f88 := f62.other W79 (Or.inr (slot_ne (Or.inl (own_at hw 55 rfl)) (Or.inl (own_at hw 53 rfl)) (by decide) (t := .boolean) (t' := .boolean) (by decide) (by decide)))
      have f89 := f63.other W79 (Or.inr (slot_ne (Or.inl (own_at hw 62 rfl)) (Or.inl (own_at hw 53 rfl)) (by decide) (t := (.array .int)) (t' := .boolean) (by decide) (by decide)))
      have f90 := f64.other W79 (Or.inr (slot_ne (Or.inl (own_at hw 69 rfl)) (Or.inl (own_at hw 53 rfl)) (by decide) (t := .int) (t' := .boolean) (by decide) (by decide)))
      have f91 := f65.other W79 (Or.inr (slot_ne (Or.inl (own_at hw 21 rfl)) (Or.inl (own_at hw 53 rfl)) (by decide) (t := .int) (t' := .boolean) (by decide) (by decide)))
      have f92 := f66.other W79 (Ne.symm n1)
      have f93 := f67.other W79 (Ne.symm n2)
      have f94 := f68.other W79 (Ne.symm n3)
      have f95 := f69.other W79 (Ne.symm n4)
      have f96 := f70.wr W79
      have f97 := f71.other W79 (Or.inl x1n)
      have f98 := f72.other W79 (Or.inl x1n)
      have K99 := K73.wr W79 (Or.inl (List.mem_of_getElem? (i := 0) rfl))
      have N100 := Fr.snoc X79 N74 gw0
      have Z101 : n0 ≤ h79.size := Nat.le_trans Z75 (Keep.of_wr W79).1
      show own_Goes _ _ _ _ _ _ _ (T79.setTop (mkF m 67 #[.val (.ref x0), .val (.long x1), .second, .val (.ref x2)] []))
      refine own_Goes.step (fun tq kq => XS.aloadN X79.here hx rfl (hb hby d5_67) rfl rfl kq) ?_
      show own_Goes _ _ _ _ _ _ _ (T79.setTop (mkF m 68 #[.val (.ref x0), .val (.long x1), .second, .val (.ref x2)] [(.ref x0)]))
      refine own_Goes.step (fun tq kq => XS.dup X79.here hx rfl (hb hby d5_68) rfl rfl kq) ?_
      show own_Goes _ _ _ _ _ _ _ (T79.setTop (mkF m 69 #[.val (.ref x0), .val (.long x1), .second, .val (.ref x2)] [(.ref x0), (.ref x0)]))
      obtain ⟨T102, X102, e102, st102⟩ := getF X79 hx hZ hown (host := "") (Or.inl (own_at hw 54 rfl)) Via.refl e79 f88 (g := (mkF m 69 #[.val (.ref x0), .val (.long x1), .second, .val (.ref x2)] [(.ref x0), (.ref x0)])) rfl rfl (hb hby d5_69)
      refine own_Goes.step st102 ?_
      show own_Goes _ _ _ _ _ _ _ (T102.setTop (mkF m 72 #[.val (.ref x0), .val (.long x1), .second, .val (.ref x2)] [(.int (0 : Int32)), (.ref x0)]))
      refine own_Goes.step (fun tq kq => XS.aloadN X102.here hx rfl (hb hby d5_72) rfl rfl kq) ?_
      show own_Goes _ _ _ _ _ _ _ (T102.setTop (mkF m 73 #[.val (.ref x0), .val (.long x1), .second, .val (.ref x2)] [(.ref x2), (.int (0 : Int32)), (.ref x0)]))
      obtain ⟨w103, T103, L103, q103, Y103, st103⟩ := own_virt X102 hx hZ e102 f96 hown (own_at hw 56 rfl) (own_at hw 57 rfl) (own_at hw 59 rfl) (own_at hw 58 rfl) (own_at hw 24 rfl) (own_at hw 60 rfl) (by decide) (own_m7 l Z a0 hw [] x2 d h79 f98 ) (by decide) (W := 2) (by decide) (by decide) (by decide) (g := (mkF m 73 #[.val (.ref x0), .val (.long x1), .second, .val (.ref x2)] [(.ref x2), (.int (0 : Int32)), (.ref x0)])) rfl (by rw [hml]; rfl) (argsL := []) (rest := [(.int (0 : Int32)), (.ref x0)]) (lenOf pd_7 rfl) rfl (by show 2 * 0 + _ ≤ _; exact Nat.le_of_eq rfl) (hb hby d5_73)
      obtain ⟨e103, X103⟩ := own_clean q103 Y103 rfl rfl
      obtain ⟨rfl, -, -⟩ := q103
      refine own_Goes.step st103 ?_
      show own_Goes _ _ _ _ _ _ _ (T103.setTop (mkF m 76 #[.val (.ref x0), .val (.long x1), .second, .val (.ref x2)] [(.int (own_f7 d)), (.int (0 : Int32)), (.ref x0)]))
      refine own_Goes.step (fun tq kq => XT.ior X103.here hx rfl (hb hby d5_76) rfl kq) ?_
      show own_Goes _ _ _ _ _ _ _ (T103.setTop (mkF m 77 #[.val (.ref x0), .val (.long x1), .second, .val (.ref x2)] [(.int ((0 : Int32) ||| (own_f7 d))), (.ref x0)]))
      obtain ⟨T104, h104, X104, e104, W104, st104⟩ := putF X103 hx hZ hown (host := "") (Or.inl (own_at hw 54 rfl)) Via.refl e103 (v := (.int ((0 : Int32) ||| (own_f7 d)))) f88 f80 (Or.inl (own_at hw 55 rfl)) (own_at hw 1 rfl) (ty := .boolean) (by decide) (own_fit1 (own_orb (by first | exact Or.inl rfl | exact ham) (own_d7 hd))) (own_fit2 (own_orb (by first | exact Or.inl rfl | exact ham) (own_d7 hd))) (g := (mkF m 77 #[.val (.ref x0), .val (.long x1), .second, .val (.ref x2)] [(.int ((0 : Int32) ||| (own_f7 d))), (.ref x0)])) rfl rfl (hb hby d5_77)
      refine own_Goes.step st104 ?_
      have f105 := f80.wr W104
      have f106 := f81.other W104 (Or.inr (slot_ne (Or.inl (own_at hw 11 rfl)) (Or.inl (own_at hw 55 rfl)) (by decide) (t := (.array .long)) (t' := .boolean) (by decide) (by decide)))
      have f107 := f82.other W104 (Or.inr (slot_ne (Or.inl (own_at hw 13 rfl)) (Or.inl (own_at hw 55 rfl)) (by decide) (t := (.array .long)) (t' := .boolean) (by decide) (by decide)))
      have f108 := f83.other W104 (Or.inr (slot_ne (Or.inl (own_at hw 16 rfl)) (Or.inl (own_at hw 55 rfl)) (by decide) (t := (.array .boolean)) (t' := .boolean) (by decide) (by decide)))
      have f109 := f84.other W104 (Or.inr (slot_ne (Or.inl (own_at hw 19 rfl)) (Or.inl (own_at hw 55 rfl)) (by decide) (t := (.array .int)) (t' := .boolean) (by decide) (by decide)))
      have f110 := f85.other W104 (Or.inr (slot_ne (Or.inl (own_at hw 44 rfl)) (Or.inl (own_at hw 55 rfl)) (by decide) (t := .int) (t' := .boolean) (by decide) (by decide)))
      have f111 := f86.other W104 (Or.inr (slot_ne (Or.inl (own_at hw 51 rfl)) (Or.inl (own_at hw 55 rfl)) (by decide) (t := .long) (t' := .boolean) (by decide) (by decide)))
      have f112 := f87.other W104 (Or.inr (slot_ne (Or.inl (own_at hw 53 rfl)) (Or.inl (own_at hw 55 rfl)) (by decide) (t := .boolean) (t' := .boolean) (by decide) (by decide)))
      have f113 := f88.same W104
      have f114 := f89.other W104 (Or.inr (slot_ne (Or.inl (own_at hw 62 rfl)) (Or.inl (own_at hw 55 rfl)) (by decide) (t := (.array .int)) (t' := .boolean) (by decide) (by decide)))
      have f115 := f90.other W104 (Or.inr (slot_ne (Or.inl (own_at hw 69 rfl)) (Or.inl (own_at hw 55 rfl)) (by decide) (t := .int) (t' := .boolean) (by decide) (by decide)))
      have f116 := f91.other W104 (Or.inr (slot_ne (Or.inl (own_at hw 21 rfl)) (Or.inl (own_at hw 55 rfl)) (by decide) (t := .int) (t' := .boolean) (by decide) (by decide)))
      have f117 := f92.other W104 (Ne.symm n1)
      have f118 := f93.other W104 (Ne.symm n2)
      have f119 := f94.other W104 (Ne.symm n3)
      have f120 := f95.other W104 (Ne.symm n4)
      have f121 := f96.wr W104
      have f122 := f97.other W104 (Or.inl x1n)
      have f123 := f98.other W104 (Or.inl x1n)
      have K124 := K99.wr W104 (Or.inl (List.mem_of_getElem? (i := 0) rfl))
      have N125 := Fr.snoc X104 N100 gw0
      have Z126 : n0 ≤ h104.size := Nat.le_trans Z101 (Keep.of_wr W104).1
      show own_Goes _ _ _ _ _ _ _ (T104.setTop (mkF m 80 #[.val (.ref x0), .val (.long x1), .second, .val (.ref x2)] []))
      refine own_Goes.step (fun tq kq => XS.aloadN X104.here hx rfl (hb hby d5_80) rfl rfl kq) ?_
      show own_Goes _ _ _ _ _ _ _ (T104.setTop (mkF m 81 #[.val (.ref x0), .val (.long x1), .second, .val (.ref x2)] [(.ref x0)]))
      obtain ⟨T127, X127, e127, st127⟩ := getF X104 hx hZ hown (host := "") (Or.inl (own_at hw 10 rfl)) Via.refl e104 f106 (g := (mkF m 81 #[.val (.ref x0), .val (.long x1), .second, .val (.ref x2)] [(.ref x0)])) rfl rfl (hb hby d5_81)
      refine own_Goes.step st127 ?_
      show own_Goes _ _ _ _ _ _ _ (T127.setTop (mkF m 84 #[.val (.ref x0), .val (.long x1), .second, .val (.ref x2)] [(.ref kA)]))
      refine own_Goes.step (fun tq kq => XS.aloadN X127.here hx rfl (hb hby d5_84) rfl rfl kq) ?_
      show own_Goes _ _ _ _ _ _ _ (T127.setTop (mkF m 85 #[.val (.ref x0), .val (.long x1), .second, .val (.ref x2)] [(.ref x0), (.ref kA)]))
      obtain ⟨T128, X128, e128, st128⟩ := getF X127 hx hZ hown (host := "") (Or.inl (own_at hw 43 rfl)) Via.refl e127 f110 (g := (mkF m 85 #[.val (.ref x0), .val (.long x1), .second, .val (.ref x2)] [(.ref x0), (.ref kA)])) rfl rfl (hb hby d5_85)
      refine own_Goes.step st128 ?_
      show own_Goes _ _ _ _ _ _ _ (T128.setTop (mkF m 88 #[.val (.ref x0), .val (.long x1), .second, .val (.ref x2)] [(.int (Int32.ofNat cnt)), (.ref kA)]))
      refine own_Goes.step (fun tq kq => XT.lloadN X128.here hx rfl (hb hby d5_88) rfl kq) ?_
      show own_Goes _ _ _ _ _ _ _ (T128.setTop (mkF m 89 #[.val (.ref x0), .val (.long x1), .second, .val (.ref x2)] [(.long x1), (.int (Int32.ofNat cnt)), (.ref kA)]))
      obtain ⟨T129, h129, X129, e129, W129, st129⟩ := own_last X128 hx hZ e128 f117 (i := cnt) (own_toI (by omega)) hc16 (g := (mkF m 89 #[.val (.ref x0), .val (.long x1), .second, .val (.ref x2)] [(.long x1), (.int (Int32.ofNat cnt)), (.ref kA)])) rfl rfl (hb hby d5_89)
      refine own_Goes.step st129 ?_
      have f130 := f105.wr W129
      have f131 := f106.other W129 (Or.inl n1)
      have f132 := f107.other W129 (Or.inl n1)
      have f133 := f108.other W129 (Or.inl n1)
      have f134 := f109.other W129 (Or.inl n1)
      have f135 := f110.other W129 (Or.inl n1)
      have f136 := f111.other W129 (Or.inl n1)
      have f137 := f112.other W129 (Or.inl n1)
      have f138 := f113.other W129 (Or.inl n1)
      have f139 := f114.other W129 (Or.inl n1)
      have f140 := f115.other W129 (Or.inl n1)
      have f141 := f116.other W129 (Or.inl n1)
      have f142 : own_Ar Z h129 kA .long 16 (fun uu => .long ((fun j => if j = cnt then x1 else K j) uu)) := (f117.set W129).congr fun j _ => by dsimp only; exact (apply_ite Value.long _ _ _).symm
      have f143 := f118.other W129 (Ne.symm n5)
      have f144 := f119.other W129 (Ne.symm n6)
      have f145 := f120.other W129 (Ne.symm n7)
      have f146 := f121.wr W129
      have f147 := f122.other W129 (Or.inl x2n)
      have f148 := f123.other W129 (Or.inl x2n)
      have K149 := K124.wr W129 (Or.inl (List.mem_of_getElem? (i := 1) rfl))
      have N150 := Fr.snoc X129 N125 gw1
      have Z151 : n0 ≤ h129.size := Nat.le_trans Z126 (Keep.of_wr W129).1
      show own_Goes _ _ _ _ _ _ _ (T129.setTop (mkF m 90 #[.val (.ref x0), .val (.long x1), .second, .val (.ref x2)] []))
      refine own_Goes.step (fun tq kq => XS.aloadN X129.here hx rfl (hb hby d5_90) rfl rfl kq) ?_
      show own_Goes _ _ _ _ _ _ _ (T129.setTop (mkF m 91 #[.val (.ref x0), .val (.long x1), .second, .val (.ref x2)] [(.ref x0)]))
      obtain ⟨T152, X152, e152, st152⟩ := getF X129 hx hZ hown (host := "") (Or.inl (own_at hw 12 rfl)) Via.refl e129 f132 (g := (mkF m 91 #[.val (.ref x0), .val (.long x1), .second, .val (.ref x2)] [(.ref x0)])) rfl rfl (hb hby d5_91)
      refine own_Goes.step st152 ?_
      show own_Goes _ _ _ _ _ _ _ (T152.setTop (mkF m 94 #[.val (.ref x0), .val (.long x1), .second, .val (.ref x2)] [(.ref sA)]))
      refine own_Goes.step (fun tq kq => XS.aloadN X152.here hx rfl (hb hby d5_94) rfl rfl kq) ?_
      show own_Goes _ _ _ _ _ _ _ (T152.setTop (mkF m 95 #[.val (.ref x0), .val (.long x1), .second, .val (.ref x2)] [(.ref x0), (.ref sA)]))
      obtain ⟨T153, X153, e153, st153⟩ := getF X152 hx hZ hown (host := "") (Or.inl (own_at hw 43 rfl)) Via.refl e152 f135 (g := (mkF m 95 #[.val (.ref x0), .val (.long x1), .second, .val (.ref x2)] [(.ref x0), (.ref sA)])) rfl rfl (hb hby d5_95)
      refine own_Goes.step st153 ?_
      show own_Goes _ _ _ _ _ _ _ (T153.setTop (mkF m 98 #[.val (.ref x0), .val (.long x1), .second, .val (.ref x2)] [(.int (Int32.ofNat cnt)), (.ref sA)]))
      refine own_Goes.step (fun tq kq => XS.aloadN X153.here hx rfl (hb hby d5_98) rfl rfl kq) ?_
      show own_Goes _ _ _ _ _ _ _ (T153.setTop (mkF m 99 #[.val (.ref x0), .val (.long x1), .second, .val (.ref x2)] [(.ref x2), (.int (Int32.ofNat cnt)), (.ref sA)]))
      obtain ⟨w154, T154, L154, q154, Y154, st154⟩ := own_virt X153 hx hZ e153 f146 hown (own_at hw 45 rfl) (own_at hw 46 rfl) (own_at hw 48 rfl) (own_at hw 47 rfl) (own_at hw 24 rfl) (own_at hw 49 rfl) (by decide) (own_m6 l Z a0 hw [] x2 z h129 f147 ) (by decide) (W := 2) (by decide) (by decide) (by decide) (g := (mkF m 99 #[.val (.ref x0), .val (.long x1), .second, .val (.ref x2)] [(.ref x2), (.int (Int32.ofNat cnt)), (.ref sA)])) rfl (by rw [hml]; rfl) (argsL := []) (rest := [(.int (Int32.ofNat cnt)), (.ref sA)]) (lenOf pd_6 rfl) rfl (by show 2 * 0 + _ ≤ _; exact Nat.le_of_eq rfl) (hb hby d5_99)
      obtain ⟨e154, X154⟩ := own_clean q154 Y154 rfl rfl
      obtain ⟨rfl, -, -⟩ := q154
      refine own_Goes.step st154 ?_
      show own_Goes _ _ _ _ _ _ _ (T154.setTop (mkF m 102 #[.val (.ref x0), .val (.long x1), .second, .val (.ref x2)] [(.long (own_f6 z)), (.int (Int32.ofNat cnt)), (.ref sA)]))
      obtain ⟨T155, h155, X155, e155, W155, st155⟩ := own_last X154 hx hZ e154 f143 (i := cnt) (own_toI (by omega)) hc16 (g := (mkF m 102 #[.val (.ref x0), .val (.long x1), .second, .val (.ref x2)] [(.long (own_f6 z)), (.int (Int32.ofNat cnt)), (.ref sA)])) rfl rfl (hb hby d5_102)
      refine own_Goes.step st155 ?_
      have f156 := f130.wr W155
      have f157 := f131.other W155 (Or.inl n2)
      have f158 := f132.other W155 (Or.inl n2)
      have f159 := f133.other W155 (Or.inl n2)
      have f160 := f134.other W155 (Or.inl n2)
      have f161 := f135.other W155 (Or.inl n2)
      have f162 := f136.other W155 (Or.inl n2)
      have f163 := f137.other W155 (Or.inl n2)
      have f164 := f138.other W155 (Or.inl n2)
      have f165 := f139.other W155 (Or.inl n2)
      have f166 := f140.other W155 (Or.inl n2)
      have f167 := f141.other W155 (Or.inl n2)
      have f168 := f142.other W155 n5
      have f169 : own_Ar Z h155 sA .long 16 (fun uu => .long ((fun j => if j = cnt then (own_f6 z) else Sz j) uu)) := (f143.set W155).congr fun j _ => by dsimp only; exact (apply_ite Value.long _ _ _).symm
      have f170 := f144.other W155 (Ne.symm n8)
      have f171 := f145.other W155 (Ne.symm n9)
      have f172 := f146.wr W155
      have f173 := f147.other W155 (Or.inl x3n)
      have f174 := f148.other W155 (Or.inl x3n)
      have K175 := K149.wr W155 (Or.inl (List.mem_of_getElem? (i := 2) rfl))
      have N176 := Fr.snoc X155 N150 gw2
      have Z177 : n0 ≤ h155.size := Nat.le_trans Z151 (Keep.of_wr W155).1
      show own_Goes _ _ _ _ _ _ _ (T155.setTop (mkF m 103 #[.val (.ref x0), .val (.long x1), .second, .val (.ref x2)] []))
      refine own_Goes.step (fun tq kq => XS.aloadN X155.here hx rfl (hb hby d5_103) rfl rfl kq) ?_
      show own_Goes _ _ _ _ _ _ _ (T155.setTop (mkF m 104 #[.val (.ref x0), .val (.long x1), .second, .val (.ref x2)] [(.ref x0)]))
      obtain ⟨T178, X178, e178, st178⟩ := getF X155 hx hZ hown (host := "") (Or.inl (own_at hw 15 rfl)) Via.refl e155 f159 (g := (mkF m 104 #[.val (.ref x0), .val (.long x1), .second, .val (.ref x2)] [(.ref x0)])) rfl rfl (hb hby d5_104)
      refine own_Goes.step st178 ?_
      show own_Goes _ _ _ _ _ _ _ (T178.setTop (mkF m 107 #[.val (.ref x0), .val (.long x1), .second, .val (.ref x2)] [(.ref dA)]))
      refine own_Goes.step (fun tq kq => XS.aloadN X178.here hx rfl (hb hby d5_107) rfl rfl kq) ?_
      show own_Goes _ _ _ _ _ _ _ (T178.setTop (mkF m 108 #[.val (.ref x0), .val (.long x1), .second, .val (.ref x2)] [(.ref x0), (.ref dA)]))
      obtain ⟨T179, X179, e179, st179⟩ := getF X178 hx hZ hown (host := "") (Or.inl (own_at hw 43 rfl)) Via.refl e178 f161 (g := (mkF m 108 #[.val (.ref x0), .val (.long x1), .second, .val (.ref x2)] [(.ref x0), (.ref dA)])) rfl rfl (hb hby d5_108)
      refine own_Goes.step st179 ?_
      show own_Goes _ _ _ _ _ _ _ (T179.setTop (mkF m 111 #[.val (.ref x0), .val (.long x1), .second, .val (.ref x2)] [(.int (Int32.ofNat cnt)), (.ref dA)]))
      refine own_Goes.step (fun tq kq => XS.aloadN X179.here hx rfl (hb hby d5_111) rfl rfl kq) ?_
      show own_Goes _ _ _ _ _ _ _ (T179.setTop (mkF m 112 #[.val (.ref x0), .val (.long x1), .second, .val (.ref x2)] [(.ref x2), (.int (Int32.ofNat cnt)), (.ref dA)]))
      obtain ⟨w180, T180, L180, q180, Y180, st180⟩ := own_virt X179 hx hZ e179 f172 hown (own_at hw 56 rfl) (own_at hw 57 rfl) (own_at hw 59 rfl) (own_at hw 58 rfl) (own_at hw 24 rfl) (own_at hw 60 rfl) (by decide) (own_m7 l Z a0 hw [] x2 d h155 f174 ) (by decide) (W := 2) (by decide) (by decide) (by decide) (g := (mkF m 112 #[.val (.ref x0), .val (.long x1), .second, .val (.ref x2)] [(.ref x2), (.int (Int32.ofNat cnt)), (.ref dA)])) rfl (by rw [hml]; rfl) (argsL := []) (rest := [(.int (Int32.ofNat cnt)), (.ref dA)]) (lenOf pd_7 rfl) rfl (by show 2 * 0 + _ ≤ _; exact Nat.le_of_eq rfl) (hb hby d5_112)
      obtain ⟨e180, X180⟩ := own_clean q180 Y180 rfl rfl
      obtain ⟨rfl, -, -⟩ := q180
      refine own_Goes.step st180 ?_
      show own_Goes _ _ _ _ _ _ _ (T180.setTop (mkF m 115 #[.val (.ref x0), .val (.long x1), .second, .val (.ref x2)] [(.int (own_f7 d)), (.int (Int32.ofNat cnt)), (.ref dA)]))
      obtain ⟨T181, h181, X181, e181, W181, st181⟩ := own_zast X180 hx hZ e180 f170 (i := cnt) (own_toI (by omega)) hc16 (g := (mkF m 115 #[.val (.ref x0), .val (.long x1), .second, .val (.ref x2)] [(.int (own_f7 d)), (.int (Int32.ofNat cnt)), (.ref dA)])) rfl rfl (hb hby d5_115)
      refine own_Goes.step st181 ?_
      have f182 := f156.wr W181
      have f183 := f157.other W181 (Or.inl n3)
      have f184 := f158.other W181 (Or.inl n3)
      have f185 := f159.other W181 (Or.inl n3)
      have f186 := f160.other W181 (Or.inl n3)
      have f187 := f161.other W181 (Or.inl n3)
      have f188 := f162.other W181 (Or.inl n3)
      have f189 := f163.other W181 (Or.inl n3)
      have f190 := f164.other W181 (Or.inl n3)
      have f191 := f165.other W181 (Or.inl n3)
      have f192 := f166.other W181 (Or.inl n3)
      have f193 := f167.other W181 (Or.inl n3)
      have f194 := f168.other W181 n6
      have f195 := f169.other W181 n8
      have f196 : own_Ar Z h181 dA .boolean 16 (fun uu => .int ((fun j => if j = cnt then (nar .boolean (own_f7 d)) else D j) uu)) := (f170.set W181).congr fun j _ => by dsimp only; exact (apply_ite Value.int _ _ _).symm
      have f197 := f171.other W181 (Ne.symm n10)
      have f198 := f172.wr W181
      have f199 := f173.other W181 (Or.inl x4n)
      have f200 := f174.other W181 (Or.inl x4n)
      have K201 := K175.wr W181 (Or.inl (List.mem_of_getElem? (i := 3) rfl))
      have N202 := Fr.snoc X181 N176 gw3
      have Z203 : n0 ≤ h181.size := Nat.le_trans Z177 (Keep.of_wr W181).1
      show own_Goes _ _ _ _ _ _ _ (T181.setTop (mkF m 116 #[.val (.ref x0), .val (.long x1), .second, .val (.ref x2)] []))
      refine own_Goes.step (fun tq kq => XS.aloadN X181.here hx rfl (hb hby d5_116) rfl rfl kq) ?_
      show own_Goes _ _ _ _ _ _ _ (T181.setTop (mkF m 117 #[.val (.ref x0), .val (.long x1), .second, .val (.ref x2)] [(.ref x0)]))
      refine own_Goes.step (fun tq kq => XS.dup X181.here hx rfl (hb hby d5_117) rfl rfl kq) ?_
      show own_Goes _ _ _ _ _ _ _ (T181.setTop (mkF m 118 #[.val (.ref x0), .val (.long x1), .second, .val (.ref x2)] [(.ref x0), (.ref x0)]))
      obtain ⟨T204, X204, e204, st204⟩ := getF X181 hx hZ hown (host := "") (Or.inl (own_at hw 43 rfl)) Via.refl e181 f187 (g := (mkF m 118 #[.val (.ref x0), .val (.long x1), .second, .val (.ref x2)] [(.ref x0), (.ref x0)])) rfl rfl (hb hby d5_118)
      refine own_Goes.step st204 ?_
      show own_Goes _ _ _ _ _ _ _ (T204.setTop (mkF m 121 #[.val (.ref x0), .val (.long x1), .second, .val (.ref x2)] [(.int (Int32.ofNat cnt)), (.ref x0)]))
      refine own_Goes.step (fun tq kq => XT.iconstV X204.here hx rfl (1 : Int32) (hb hby d5_121) (by decide) kq) ?_
      show own_Goes _ _ _ _ _ _ _ (T204.setTop (mkF m 122 #[.val (.ref x0), .val (.long x1), .second, .val (.ref x2)] [(.int (1 : Int32)), (.int (Int32.ofNat cnt)), (.ref x0)]))
      refine own_Goes.step (fun tq kq => XS.iadd X204.here hx rfl (hb hby d5_122) rfl kq) ?_
      show own_Goes _ _ _ _ _ _ _ (T204.setTop (mkF m 123 #[.val (.ref x0), .val (.long x1), .second, .val (.ref x2)] [(.int ((Int32.ofNat cnt) + (1 : Int32))), (.ref x0)]))
      obtain ⟨T205, h205, X205, e205, W205, st205⟩ := putF X204 hx hZ hown (host := "") (Or.inl (own_at hw 43 rfl)) Via.refl e204 (v := (.int ((Int32.ofNat cnt) + (1 : Int32)))) f187 f182 (Or.inl (own_at hw 44 rfl)) (own_at hw 1 rfl) (ty := .int) (by decide) rfl rfl (g := (mkF m 123 #[.val (.ref x0), .val (.long x1), .second, .val (.ref x2)] [(.int ((Int32.ofNat cnt) + (1 : Int32))), (.ref x0)])) rfl rfl (hb hby d5_123)
      refine own_Goes.step st205 ?_
      have f206 := f182.wr W205
      have f207 := f183.other W205 (Or.inr (slot_ne (Or.inl (own_at hw 11 rfl)) (Or.inl (own_at hw 44 rfl)) (by decide) (t := (.array .long)) (t' := .int) (by decide) (by decide)))
      have f208 := f184.other W205 (Or.inr (slot_ne (Or.inl (own_at hw 13 rfl)) (Or.inl (own_at hw 44 rfl)) (by decide) (t := (.array .long)) (t' := .int) (by decide) (by decide)))
      have f209 := f185.other W205 (Or.inr (slot_ne (Or.inl (own_at hw 16 rfl)) (Or.inl (own_at hw 44 rfl)) (by decide) (t := (.array .boolean)) (t' := .int) (by decide) (by decide)))
      have f210 := f186.other W205 (Or.inr (slot_ne (Or.inl (own_at hw 19 rfl)) (Or.inl (own_at hw 44 rfl)) (by decide) (t := (.array .int)) (t' := .int) (by decide) (by decide)))
      have f211 := f187.same W205
      have f212 := f188.other W205 (Or.inr (slot_ne (Or.inl (own_at hw 51 rfl)) (Or.inl (own_at hw 44 rfl)) (by decide) (t := .long) (t' := .int) (by decide) (by decide)))
      have f213 := f189.other W205 (Or.inr (slot_ne (Or.inl (own_at hw 53 rfl)) (Or.inl (own_at hw 44 rfl)) (by decide) (t := .boolean) (t' := .int) (by decide) (by decide)))
      have f214 := f190.other W205 (Or.inr (slot_ne (Or.inl (own_at hw 55 rfl)) (Or.inl (own_at hw 44 rfl)) (by decide) (t := .boolean) (t' := .int) (by decide) (by decide)))
      have f215 := f191.other W205 (Or.inr (slot_ne (Or.inl (own_at hw 62 rfl)) (Or.inl (own_at hw 44 rfl)) (by decide) (t := (.array .int)) (t' := .int) (by decide) (by decide)))
      have f216 := f192.other W205 (Or.inr (slot_ne (Or.inl (own_at hw 69 rfl)) (Or.inl (own_at hw 44 rfl)) (by decide) (t := .int) (t' := .int) (by decide) (by decide)))
      have f217 := f193.other W205 (Or.inr (slot_ne (Or.inl (own_at hw 21 rfl)) (Or.inl (own_at hw 44 rfl)) (by decide) (t := .int) (t' := .int) (by decide) (by decide)))
      have f218 := f194.other W205 (Ne.symm n1)
      have f219 := f195.other W205 (Ne.symm n2)
      have f220 := f196.other W205 (Ne.symm n3)
      have f221 := f197.other W205 (Ne.symm n4)
      have f222 := f198.wr W205
      have f223 := f199.other W205 (Or.inl x1n)
      have f224 := f200.other W205 (Or.inl x1n)
      have K225 := K201.wr W205 (Or.inl (List.mem_of_getElem? (i := 0) rfl))
      have N226 := Fr.snoc X205 N202 gw0
      have Z227 : n0 ≤ h205.size := Nat.le_trans Z203 (Keep.of_wr W205).1
      show own_Goes _ _ _ _ _ _ _ (T205.setTop (mkF m 126 #[.val (.ref x0), .val (.long x1), .second, .val (.ref x2)] []))
      refine own_Goes.step (fun tq kq => XS.aloadN X205.here hx rfl (hb hby d5_126) rfl rfl kq) ?_
      show own_Goes _ _ _ _ _ _ _ (T205.setTop (mkF m 127 #[.val (.ref x0), .val (.long x1), .second, .val (.ref x2)] [(.ref x0)]))
      obtain ⟨T228, X228, e228, st228⟩ := getF X205 hx hZ hown (host := "") (Or.inl (own_at hw 61 rfl)) Via.refl e205 f215 (g := (mkF m 127 #[.val (.ref x0), .val (.long x1), .second, .val (.ref x2)] [(.ref x0)])) rfl rfl (hb hby d5_127)
      refine own_Goes.step st228 ?_
      show own_Goes _ _ _ _ _ _ _ (T228.setTop (mkF m 130 #[.val (.ref x0), .val (.long x1), .second, .val (.ref x2)] [.null]))
      refine own_Goes.step (fun tq kq => XS.ifnullYes X228.here hx rfl (pc0 := 130) (pc' := 143) rfl (hb hby d5_130) rfl (by decide) (by decide) kq) ?_
      show own_Goes _ _ _ _ _ _ _ (T228.setTop (mkF m 143 #[.val (.ref x0), .val (.long x1), .second, .val (.ref x2)] []))
      refine own_endV X228 hx Bd.notSynchronized Bd.returns (hb hby d5_143) ?_ (by decide) (by decide)
      show own_F5n Z x0 x1 x2 kA sA dA pA K Sz D cnt fs mx am la ix z d n0 h0 _ T228.heap _
      rw [e228]
      refine ⟨rfl, N226, K225, (own_f6 z), ((0 : Int32) ||| (0 : Int32)), ((0 : Int32) ||| (own_f7 d)), fun _ => ⟨rfl, rfl, by rw [own_d7e hd]; exact own_or0 d⟩, ?_⟩
      exact ⟨f206, f207, f208, f209, f210, (own_cnt cnt ▸ f211), f212, f213, f214, f215, f216, f217, f218, f219, f220, f221, n1, n2, n3, n4, n5, n6, n7, n8, n9, n10, gw0, gw1, gw2, gw3, (Or.inl rfl), (own_orb (by first | exact Or.inl rfl | exact ham) (own_d7 hd))⟩
    · refine own_Goes.step (fun tq kq => XS.ifYes X4.here hx rfl (pc0 := 20) (pc' := 41) rfl (hb hby d5_20) rfl (XT.i0_ne_t hc5) (by decide) (by decide) kq) ?_
      show own_Goes _ _ _ _ _ _ _ (T4.setTop (mkF m 41 #[.val (.ref x0), .val (.long x1), .second, .val (.ref x2)] []))
      refine own_Goes.step (fun tq kq => XS.aloadN X4.here hx rfl (hb hby d5_41) rfl rfl kq) ?_
      show own_Goes _ _ _ _ _ _ _ (T4.setTop (mkF m 42 #[.val (.ref x0), .val (.long x1), .second, .val (.ref x2)] [(.ref x0)]))
      refine own_Goes.step (fun tq kq => XS.dup X4.here hx rfl (hb hby d5_42) rfl rfl kq) ?_
      show own_Goes _ _ _ _ _ _ _ (T4.setTop (mkF m 43 #[.val (.ref x0), .val (.long x1), .second, .val (.ref x2)] [(.ref x0), (.ref x0)]))
      obtain ⟨T230, X230, e230, st230⟩ := getF X4 hx hZ hown (host := "") (Or.inl (own_at hw 52 rfl)) Via.refl e4 P6 (g := (mkF m 43 #[.val (.ref x0), .val (.long x1), .second, .val (.ref x2)] [(.ref x0), (.ref x0)])) rfl rfl (hb hby d5_43)
      refine own_Goes.step st230 ?_
      show own_Goes _ _ _ _ _ _ _ (T230.setTop (mkF m 46 #[.val (.ref x0), .val (.long x1), .second, .val (.ref x2)] [(.int mx), (.ref x0)]))
      refine own_Goes.step (fun tq kq => XS.aloadN X230.here hx rfl (hb hby d5_46) rfl rfl kq) ?_
      show own_Goes _ _ _ _ _ _ _ (T230.setTop (mkF m 47 #[.val (.ref x0), .val (.long x1), .second, .val (.ref x2)] [(.ref x2), (.int mx), (.ref x0)]))
      obtain ⟨w231, T231, L231, q231, Y231, st231⟩ := own_virt X230 hx hZ e230 EE hown (own_at hw 45 rfl) (own_at hw 46 rfl) (own_at hw 48 rfl) (own_at hw 47 rfl) (own_at hw 24 rfl) (own_at hw 49 rfl) (by decide) (own_m6 l Z a0 hw [] x2 z h0 PE0 ) (by decide) (W := 2) (by decide) (by decide) (by decide) (g := (mkF m 47 #[.val (.ref x0), .val (.long x1), .second, .val (.ref x2)] [(.ref x2), (.int mx), (.ref x0)])) rfl (by rw [hml]; rfl) (argsL := []) (rest := [(.int mx), (.ref x0)]) (lenOf pd_6 rfl) rfl (by show 2 * 0 + _ ≤ _; exact Nat.le_of_eq rfl) (hb hby d5_47)
      obtain ⟨e231, X231⟩ := own_clean q231 Y231 rfl rfl
      obtain ⟨rfl, -, -⟩ := q231
      refine own_Goes.step st231 ?_
      show own_Goes _ _ _ _ _ _ _ (T231.setTop (mkF m 50 #[.val (.ref x0), .val (.long x1), .second, .val (.ref x2)] [(.long (own_f6 z)), (.int mx), (.ref x0)]))
      refine own_Goes.step (fun tq kq => XS.aloadN X231.here hx rfl (hb hby d5_50) rfl rfl kq) ?_
      show own_Goes _ _ _ _ _ _ _ (T231.setTop (mkF m 51 #[.val (.ref x0), .val (.long x1), .second, .val (.ref x2)] [(.ref x0), (.long (own_f6 z)), (.int mx), (.ref x0)]))
      obtain ⟨T232, X232, e232, st232⟩ := getF X231 hx hZ hown (host := "") (Or.inl (own_at hw 50 rfl)) Via.refl e231 P5 (g := (mkF m 51 #[.val (.ref x0), .val (.long x1), .second, .val (.ref x2)] [(.ref x0), (.long (own_f6 z)), (.int mx), (.ref x0)])) rfl rfl (hb hby d5_51)
      refine own_Goes.step st232 ?_
      show own_Goes _ _ _ _ _ _ _ (T232.setTop (mkF m 54 #[.val (.ref x0), .val (.long x1), .second, .val (.ref x2)] [(.long fs), (.long (own_f6 z)), (.int mx), (.ref x0)]))
      refine own_Goes.step (fun tq kq => XT.lcmp X232.here hx rfl (hb hby d5_54) rfl kq) ?_
      show own_Goes _ _ _ _ _ _ _ (T232.setTop (mkF m 55 #[.val (.ref x0), .val (.long x1), .second, .val (.ref x2)] [(.int (XT.cmpL (own_f6 z) fs)), (.int mx), (.ref x0)]))
      have J385 : own_Goes p e below s (own_F5n Z x0 x1 x2 kA sA dA pA K Sz D cnt fs mx am la ix z d n0 h0) 0 0 (T232.setTop (mkF m 63 #[.val (.ref x0), .val (.long x1), .second, .val (.ref x2)] [(.int (own_f5n_1 z fs)), (.int mx), (.ref x0)])) := by
        refine own_Goes.step (fun tq kq => XT.ior X232.here hx rfl (hb hby d5_63) rfl kq) ?_
        show own_Goes _ _ _ _ _ _ _ (T232.setTop (mkF m 64 #[.val (.ref x0), .val (.long x1), .second, .val (.ref x2)] [(.int (mx ||| (own_f5n_1 z fs))), (.ref x0)]))
        obtain ⟨T234, h234, X234, e234, W234, st234⟩ := putF X232 hx hZ hown (host := "") (Or.inl (own_at hw 52 rfl)) Via.refl e232 (v := (.int (mx ||| (own_f5n_1 z fs)))) P6 E0 (Or.inl (own_at hw 53 rfl)) (own_at hw 1 rfl) (ty := .boolean) (by decide) (own_fit1 (own_orb (by first | exact Or.inl rfl | exact hmx) (by unfold own_f5n_1; split <;> first | exact Or.inl rfl | exact Or.inr rfl))) (own_fit2 (own_orb (by first | exact Or.inl rfl | exact hmx) (by unfold own_f5n_1; split <;> first | exact Or.inl rfl | exact Or.inr rfl))) (g := (mkF m 64 #[.val (.ref x0), .val (.long x1), .second, .val (.ref x2)] [(.int (mx ||| (own_f5n_1 z fs))), (.ref x0)])) rfl rfl (hb hby d5_64)
        refine own_Goes.step st234 ?_
        have f235 := E0.wr W234
        have f236 := P0.other W234 (Or.inr (slot_ne (Or.inl (own_at hw 11 rfl)) (Or.inl (own_at hw 53 rfl)) (by decide) (t := (.array .long)) (t' := .boolean) (by decide) (by decide)))
        have f237 := P1.other W234 (Or.inr (slot_ne (Or.inl (own_at hw 13 rfl)) (Or.inl (own_at hw 53 rfl)) (by decide) (t := (.array .long)) (t' := .boolean) (by decide) (by decide)))
        have f238 := P2.other W234 (Or.inr (slot_ne (Or.inl (own_at hw 16 rfl)) (Or.inl (own_at hw 53 rfl)) (by decide) (t := (.array .boolean)) (t' := .boolean) (by decide) (by decide)))
        have f239 := P3.other W234 (Or.inr (slot_ne (Or.inl (own_at hw 19 rfl)) (Or.inl (own_at hw 53 rfl)) (by decide) (t := (.array .int)) (t' := .boolean) (by decide) (by decide)))
        have f240 := P4.other W234 (Or.inr (slot_ne (Or.inl (own_at hw 44 rfl)) (Or.inl (own_at hw 53 rfl)) (by decide) (t := .int) (t' := .boolean) (by decide) (by decide)))
        have f241 := P5.other W234 (Or.inr (slot_ne (Or.inl (own_at hw 51 rfl)) (Or.inl (own_at hw 53 rfl)) (by decide) (t := .long) (t' := .boolean) (by decide) (by decide)))
        have f242 := P6.same W234
        have f243 := P7.other W234 (Or.inr (slot_ne (Or.inl (own_at hw 55 rfl)) (Or.inl (own_at hw 53 rfl)) (by decide) (t := .boolean) (t' := .boolean) (by decide) (by decide)))
        have f244 := P8.other W234 (Or.inr (slot_ne (Or.inl (own_at hw 62 rfl)) (Or.inl (own_at hw 53 rfl)) (by decide) (t := (.array .int)) (t' := .boolean) (by decide) (by decide)))
        have f245 := P9.other W234 (Or.inr (slot_ne (Or.inl (own_at hw 69 rfl)) (Or.inl (own_at hw 53 rfl)) (by decide) (t := .int) (t' := .boolean) (by decide) (by decide)))
        have f246 := P10.other W234 (Or.inr (slot_ne (Or.inl (own_at hw 21 rfl)) (Or.inl (own_at hw 53 rfl)) (by decide) (t := .int) (t' := .boolean) (by decide) (by decide)))
        have f247 := R0.other W234 (Ne.symm n1)
        have f248 := R1.other W234 (Ne.symm n2)
        have f249 := R2.other W234 (Ne.symm n3)
        have f250 := R3.other W234 (Ne.symm n4)
        have f251 := EE.wr W234
        have f252 := PE0.other W234 (Or.inl x1n)
        have f253 := PE1.other W234 (Or.inl x1n)
        have K254 := K0.wr W234 (Or.inl (List.mem_of_getElem? (i := 0) rfl))
        have N255 := Fr.snoc X234 N0 gw0
        have Z256 : n0 ≤ h234.size := Nat.le_trans Z0 (Keep.of_wr W234).1
        show own_Goes _ _ _ _ _ _ _ (T234.setTop (mkF m 67 #[.val (.ref x0), .val (.long x1), .second, .val (.ref x2)] []))
        refine own_Goes.step (fun tq kq => XS.aloadN X234.here hx rfl (hb hby d5_67) rfl rfl kq) ?_
        show own_Goes _ _ _ _ _ _ _ (T234.setTop (mkF m 68 #[.val (.ref x0), .val (.long x1), .second, .val (.ref x2)] [(.ref x0)]))
        refine own_Goes.step (fun tq kq => XS.dup X234.here hx rfl (hb hby d5_68) rfl rfl kq) ?_
        show own_Goes _ _ _ _ _ _ _ (T234.setTop (mkF m 69 #[.val (.ref x0), .val (.long x1), .second, .val (.ref x2)] [(.ref x0), (.ref x0)]))
        obtain ⟨T257, X257, e257, st257⟩ := getF X234 hx hZ hown (host := "") (Or.inl (own_at hw 54 rfl)) Via.refl e234 f243 (g := (mkF m 69 #[.val (.ref x0), .val (.long x1), .second, .val (.ref x2)] [(.ref x0), (.ref x0)])) rfl rfl (hb hby d5_69)
        refine own_Goes.step st257 ?_
        show own_Goes _ _ _ _ _ _ _ (T257.setTop (mkF m 72 #[.val (.ref x0), .val (.long x1), .second, .val (.ref x2)] [(.int am), (.ref x0)]))
        refine own_Goes.step (fun tq kq => XS.aloadN X257.here hx rfl (hb hby d5_72) rfl rfl kq) ?_
        show own_Goes _ _ _ _ _ _ _ (T257.setTop (mkF m 73 #[.val (.ref x0), .val (.long x1), .second, .val (.ref x2)] [(.ref x2), (.int am), (.ref x0)]))
        obtain ⟨w258, T258, L258, q258, Y258, st258⟩ := own_virt X257 hx hZ e257 f251 hown (own_at hw 56 rfl) (own_at hw 57 rfl) (own_at hw 59 rfl) (own_at hw 58 rfl) (own_at hw 24 rfl) (own_at hw 60 rfl) (by decide) (own_m7 l Z a0 hw [] x2 d h234 f253 ) (by decide) (W := 2) (by decide) (by decide) (by decide) (g := (mkF m 73 #[.val (.ref x0), .val (.long x1), .second, .val (.ref x2)] [(.ref x2), (.int am), (.ref x0)])) rfl (by rw [hml]; rfl) (argsL := []) (rest := [(.int am), (.ref x0)]) (lenOf pd_7 rfl) rfl (by show 2 * 0 + _ ≤ _; exact Nat.le_of_eq rfl) (hb hby d5_73)
        obtain ⟨e258, X258⟩ := own_clean q258 Y258 rfl rfl
        obtain ⟨rfl, -, -⟩ := q258
        refine own_Goes.step st258 ?_
        show own_Goes _ _ _ _ _ _ _ (T258.setTop (mkF m 76 #[.val (.ref x0), .val (.long x1), .second, .val (.ref x2)] [(.int (own_f7 d)), (.int am), (.ref x0)]))
        refine own_Goes.step (fun tq kq => XT.ior X258.here hx rfl (hb hby d5_76) rfl kq) ?_
        show own_Goes _ _ _ _ _ _ _ (T258.setTop (mkF m 77 #[.val (.ref x0), .val (.long x1), .second, .val (.ref x2)] [(.int (am ||| (own_f7 d))), (.ref x0)]))
        obtain ⟨T259, h259, X259, e259, W259, st259⟩ := putF X258 hx hZ hown (host := "") (Or.inl (own_at hw 54 rfl)) Via.refl e258 (v := (.int (am ||| (own_f7 d)))) f243 f235 (Or.inl (own_at hw 55 rfl)) (own_at hw 1 rfl) (ty := .boolean) (by decide) (own_fit1 (own_orb (by first | exact Or.inl rfl | exact ham) (own_d7 hd))) (own_fit2 (own_orb (by first | exact Or.inl rfl | exact ham) (own_d7 hd))) (g := (mkF m 77 #[.val (.ref x0), .val (.long x1), .second, .val (.ref x2)] [(.int (am ||| (own_f7 d))), (.ref x0)])) rfl rfl (hb hby d5_77)
        refine own_Goes.step st259 ?_
        have f260 := f235.wr W259
        have f261 := f236.other W259 (Or.inr (slot_ne (Or.inl (own_at hw 11 rfl)) (Or.inl (own_at hw 55 rfl)) (by decide) (t := (.array .long)) (t' := .boolean) (by decide) (by decide)))
        have f262 := f237.other W259 (Or.inr (slot_ne (Or.inl (own_at hw 13 rfl)) (Or.inl (own_at hw 55 rfl)) (by decide) (t := (.array .long)) (t' := .boolean) (by decide) (by decide)))
        have f263 := f238.other W259 (Or.inr (slot_ne (Or.inl (own_at hw 16 rfl)) (Or.inl (own_at hw 55 rfl)) (by decide) (t := (.array .boolean)) (t' := .boolean) (by decide) (by decide)))
        have f264 := f239.other W259 (Or.inr (slot_ne (Or.inl (own_at hw 19 rfl)) (Or.inl (own_at hw 55 rfl)) (by decide) (t := (.array .int)) (t' := .boolean) (by decide) (by decide)))
        have f265 := f240.other W259 (Or.inr (slot_ne (Or.inl (own_at hw 44 rfl)) (Or.inl (own_at hw 55 rfl)) (by decide) (t := .int) (t' := .boolean) (by decide) (by decide)))
        have f266 := f241.other W259 (Or.inr (slot_ne (Or.inl (own_at hw 51 rfl)) (Or.inl (own_at hw 55 rfl)) (by decide) (t := .long) (t' := .boolean) (by decide) (by decide)))
        have f267 := f242.other W259 (Or.inr (slot_ne (Or.inl (own_at hw 53 rfl)) (Or.inl (own_at hw 55 rfl)) (by decide) (t := .boolean) (t' := .boolean) (by decide) (by decide)))
        have f268 := f243.same W259
        have f269 := f244.other W259 (Or.inr (slot_ne (Or.inl (own_at hw 62 rfl)) (Or.inl (own_at hw 55 rfl)) (by decide) (t := (.array .int)) (t' := .boolean) (by decide) (by decide)))
        have f270 := f245.other W259 (Or.inr (slot_ne (Or.inl (own_at hw 69 rfl)) (Or.inl (own_at hw 55 rfl)) (by decide) (t := .int) (t' := .boolean) (by decide) (by decide)))
        have f271 := f246.other W259 (Or.inr (slot_ne (Or.inl (own_at hw 21 rfl)) (Or.inl (own_at hw 55 rfl)) (by decide) (t := .int) (t' := .boolean) (by decide) (by decide)))
        have f272 := f247.other W259 (Ne.symm n1)
        have f273 := f248.other W259 (Ne.symm n2)
        have f274 := f249.other W259 (Ne.symm n3)
        have f275 := f250.other W259 (Ne.symm n4)
        have f276 := f251.wr W259
        have f277 := f252.other W259 (Or.inl x1n)
        have f278 := f253.other W259 (Or.inl x1n)
        have K279 := K254.wr W259 (Or.inl (List.mem_of_getElem? (i := 0) rfl))
        have N280 := Fr.snoc X259 N255 gw0
        have Z281 : n0 ≤ h259.size := Nat.le_trans Z256 (Keep.of_wr W259).1
        show own_Goes _ _ _ _ _ _ _ (T259.setTop (mkF m 80 #[.val (.ref x0), .val (.long x1), .second, .val (.ref x2)] []))
        refine own_Goes.step (fun tq kq => XS.aloadN X259.here hx rfl (hb hby d5_80) rfl rfl kq) ?_
        show own_Goes _ _ _ _ _ _ _ (T259.setTop (mkF m 81 #[.val (.ref x0), .val (.long x1), .second, .val (.ref x2)] [(.ref x0)]))
        obtain ⟨T282, X282, e282, st282⟩ := getF X259 hx hZ hown (host := "") (Or.inl (own_at hw 10 rfl)) Via.refl e259 f261 (g := (mkF m 81 #[.val (.ref x0), .val (.long x1), .second, .val (.ref x2)] [(.ref x0)])) rfl rfl (hb hby d5_81)
        refine own_Goes.step st282 ?_
        show own_Goes _ _ _ _ _ _ _ (T282.setTop (mkF m 84 #[.val (.ref x0), .val (.long x1), .second, .val (.ref x2)] [(.ref kA)]))
        refine own_Goes.step (fun tq kq => XS.aloadN X282.here hx rfl (hb hby d5_84) rfl rfl kq) ?_
        show own_Goes _ _ _ _ _ _ _ (T282.setTop (mkF m 85 #[.val (.ref x0), .val (.long x1), .second, .val (.ref x2)] [(.ref x0), (.ref kA)]))
        obtain ⟨T283, X283, e283, st283⟩ := getF X282 hx hZ hown (host := "") (Or.inl (own_at hw 43 rfl)) Via.refl e282 f265 (g := (mkF m 85 #[.val (.ref x0), .val (.long x1), .second, .val (.ref x2)] [(.ref x0), (.ref kA)])) rfl rfl (hb hby d5_85)
        refine own_Goes.step st283 ?_
        show own_Goes _ _ _ _ _ _ _ (T283.setTop (mkF m 88 #[.val (.ref x0), .val (.long x1), .second, .val (.ref x2)] [(.int (Int32.ofNat cnt)), (.ref kA)]))
        refine own_Goes.step (fun tq kq => XT.lloadN X283.here hx rfl (hb hby d5_88) rfl kq) ?_
        show own_Goes _ _ _ _ _ _ _ (T283.setTop (mkF m 89 #[.val (.ref x0), .val (.long x1), .second, .val (.ref x2)] [(.long x1), (.int (Int32.ofNat cnt)), (.ref kA)]))
        obtain ⟨T284, h284, X284, e284, W284, st284⟩ := own_last X283 hx hZ e283 f272 (i := cnt) (own_toI (by omega)) hc16 (g := (mkF m 89 #[.val (.ref x0), .val (.long x1), .second, .val (.ref x2)] [(.long x1), (.int (Int32.ofNat cnt)), (.ref kA)])) rfl rfl (hb hby d5_89)
        refine own_Goes.step st284 ?_
        have f285 := f260.wr W284
        have f286 := f261.other W284 (Or.inl n1)
        have f287 := f262.other W284 (Or.inl n1)
        have f288 := f263.other W284 (Or.inl n1)
        have f289 := f264.other W284 (Or.inl n1)
        have f290 := f265.other W284 (Or.inl n1)
        have f291 := f266.other W284 (Or.inl n1)
        have f292 := f267.other W284 (Or.inl n1)
        have f293 := f268.other W284 (Or.inl n1)
        have f294 := f269.other W284 (Or.inl n1)
        have f295 := f270.other W284 (Or.inl n1)
        have f296 := f271.other W284 (Or.inl n1)
        have f297 : own_Ar Z h284 kA .long 16 (fun uu => .long ((fun j => if j = cnt then x1 else K j) uu)) := (f272.set W284).congr fun j _ => by dsimp only; exact (apply_ite Value.long _ _ _).symm
        have f298 := f273.other W284 (Ne.symm n5)
        have f299 := f274.other W284 (Ne.symm n6)
        have f300 := f275.other W284 (Ne.symm n7)
        have f301 := f276.wr W284
        have f302 := f277.other W284 (Or.inl x2n)
        have f303 := f278.other W284 (Or.inl x2n)
        have K304 := K279.wr W284 (Or.inl (List.mem_of_getElem? (i := 1) rfl))
        have N305 := Fr.snoc X284 N280 gw1
        have Z306 : n0 ≤ h284.size := Nat.le_trans Z281 (Keep.of_wr W284).1
        show own_Goes _ _ _ _ _ _ _ (T284.setTop (mkF m 90 #[.val (.ref x0), .val (.long x1), .second, .val (.ref x2)] []))
        refine own_Goes.step (fun tq kq => XS.aloadN X284.here hx rfl (hb hby d5_90) rfl rfl kq) ?_
        show own_Goes _ _ _ _ _ _ _ (T284.setTop (mkF m 91 #[.val (.ref x0), .val (.long x1), .second, .val (.ref x2)] [(.ref x0)]))
        obtain ⟨T307, X307, e307, st307⟩ := getF X284 hx hZ hown (host := "") (Or.inl (own_at hw 12 rfl)) Via.refl e284 f287 (g := (mkF m 91 #[.val (.ref x0), .val (.long x1), .second, .val (.ref x2)] [(.ref x0)])) rfl rfl (hb hby d5_91)
        refine own_Goes.step st307 ?_
        show own_Goes _ _ _ _ _ _ _ (T307.setTop (mkF m 94 #[.val (.ref x0), .val (.long x1), .second, .val (.ref x2)] [(.ref sA)]))
        refine own_Goes.step (fun tq kq => XS.aloadN X307.here hx rfl (hb hby d5_94) rfl rfl kq) ?_
        show own_Goes _ _ _ _ _ _ _ (T307.setTop (mkF m 95 #[.val (.ref x0), .val (.long x1), .second, .val (.ref x2)] [(.ref x0), (.ref sA)]))
        obtain ⟨T308, X308, e308, st308⟩ := getF X307 hx hZ hown (host := "") (Or.inl (own_at hw 43 rfl)) Via.refl e307 f290 (g := (mkF m 95 #[.val (.ref x0), .val (.long x1), .second, .val (.ref x2)] [(.ref x0), (.ref sA)])) rfl rfl (hb hby d5_95)
        refine own_Goes.step st308 ?_
        show own_Goes _ _ _ _ _ _ _ (T308.setTop (mkF m 98 #[.val (.ref x0), .val (.long x1), .second, .val (.ref x2)] [(.int (Int32.ofNat cnt)), (.ref sA)]))
        refine own_Goes.step (fun tq kq => XS.aloadN X308.here hx rfl (hb hby d5_98) rfl rfl kq) ?_
        show own_Goes _ _ _ _ _ _ _ (T308.setTop (mkF m 99 #[.val (.ref x0), .val (.long x1), .second, .val (.ref x2)] [(.ref x2), (.int (Int32.ofNat cnt)), (.ref sA)]))
        obtain ⟨w309, T309, L309, q309, Y309, st309⟩ := own_virt X308 hx hZ e308 f301 hown (own_at hw 45 rfl) (own_at hw 46 rfl) (own_at hw 48 rfl) (own_at hw 47 rfl) (own_at hw 24 rfl) (own_at hw 49 rfl) (by decide) (own_m6 l Z a0 hw [] x2 z h284 f302 ) (by decide) (W := 2) (by decide) (by decide) (by decide) (g := (mkF m 99 #[.val (.ref x0), .val (.long x1), .second, .val (.ref x2)] [(.ref x2), (.int (Int32.ofNat cnt)), (.ref sA)])) rfl (by rw [hml]; rfl) (argsL := []) (rest := [(.int (Int32.ofNat cnt)), (.ref sA)]) (lenOf pd_6 rfl) rfl (by show 2 * 0 + _ ≤ _; exact Nat.le_of_eq rfl) (hb hby d5_99)
        obtain ⟨e309, X309⟩ := own_clean q309 Y309 rfl rfl
        obtain ⟨rfl, -, -⟩ := q309
        refine own_Goes.step st309 ?_
        show own_Goes _ _ _ _ _ _ _ (T309.setTop (mkF m 102 #[.val (.ref x0), .val (.long x1), .second, .val (.ref x2)] [(.long (own_f6 z)), (.int (Int32.ofNat cnt)), (.ref sA)]))
        obtain ⟨T310, h310, X310, e310, W310, st310⟩ := own_last X309 hx hZ e309 f298 (i := cnt) (own_toI (by omega)) hc16 (g := (mkF m 102 #[.val (.ref x0), .val (.long x1), .second, .val (.ref x2)] [(.long (own_f6 z)), (.int (Int32.ofNat cnt)), (.ref sA)])) rfl rfl (hb hby d5_102)
        refine own_Goes.step st310 ?_
        have f311 := f285.wr W310
        have f312 := f286.other W310 (Or.inl n2)
        have f313 := f287.other W310 (Or.inl n2)
        have f314 := f288.other W310 (Or.inl n2)
        have f315 := f289.other W310 (Or.inl n2)
        have f316 := f290.other W310 (Or.inl n2)
        have f317 := f291.other W310 (Or.inl n2)
        have f318 := f292.other W310 (Or.inl n2)
        have f319 := f293.other W310 (Or.inl n2)
        have f320 := f294.other W310 (Or.inl n2)
        have f321 := f295.other W310 (Or.inl n2)
        have f322 := f296.other W310 (Or.inl n2)
        have f323 := f297.other W310 n5
        have f324 : own_Ar Z h310 sA .long 16 (fun uu => .long ((fun j => if j = cnt then (own_f6 z) else Sz j) uu)) := (f298.set W310).congr fun j _ => by dsimp only; exact (apply_ite Value.long _ _ _).symm
        have f325 := f299.other W310 (Ne.symm n8)
        have f326 := f300.other W310 (Ne.symm n9)
        have f327 := f301.wr W310
        have f328 := f302.other W310 (Or.inl x3n)
        have f329 := f303.other W310 (Or.inl x3n)
        have K330 := K304.wr W310 (Or.inl (List.mem_of_getElem? (i := 2) rfl))
        have N331 := Fr.snoc X310 N305 gw2
        have Z332 : n0 ≤ h310.size := Nat.le_trans Z306 (Keep.of_wr W310).1
        show own_Goes _ _ _ _ _ _ _ (T310.setTop (mkF m 103 #[.val (.ref x0), .val (.long x1), .second, .val (.ref x2)] []))
        refine own_Goes.step (fun tq kq => XS.aloadN X310.here hx rfl (hb hby d5_103) rfl rfl kq) ?_
        show own_Goes _ _ _ _ _ _ _ (T310.setTop (mkF m 104 #[.val (.ref x0), .val (.long x1), .second, .val (.ref x2)] [(.ref x0)]))
        obtain ⟨T333, X333, e333, st333⟩ := getF X310 hx hZ hown (host := "") (Or.inl (own_at hw 15 rfl)) Via.refl e310 f314 (g := (mkF m 104 #[.val (.ref x0), .val (.long x1), .second, .val (.ref x2)] [(.ref x0)])) rfl rfl (hb hby d5_104)
        refine own_Goes.step st333 ?_
        show own_Goes _ _ _ _ _ _ _ (T333.setTop (mkF m 107 #[.val (.ref x0), .val (.long x1), .second, .val (.ref x2)] [(.ref dA)]))
        refine own_Goes.step (fun tq kq => XS.aloadN X333.here hx rfl (hb hby d5_107) rfl rfl kq) ?_
        show own_Goes _ _ _ _ _ _ _ (T333.setTop (mkF m 108 #[.val (.ref x0), .val (.long x1), .second, .val (.ref x2)] [(.ref x0), (.ref dA)]))
        obtain ⟨T334, X334, e334, st334⟩ := getF X333 hx hZ hown (host := "") (Or.inl (own_at hw 43 rfl)) Via.refl e333 f316 (g := (mkF m 108 #[.val (.ref x0), .val (.long x1), .second, .val (.ref x2)] [(.ref x0), (.ref dA)])) rfl rfl (hb hby d5_108)
        refine own_Goes.step st334 ?_
        show own_Goes _ _ _ _ _ _ _ (T334.setTop (mkF m 111 #[.val (.ref x0), .val (.long x1), .second, .val (.ref x2)] [(.int (Int32.ofNat cnt)), (.ref dA)]))
        refine own_Goes.step (fun tq kq => XS.aloadN X334.here hx rfl (hb hby d5_111) rfl rfl kq) ?_
        show own_Goes _ _ _ _ _ _ _ (T334.setTop (mkF m 112 #[.val (.ref x0), .val (.long x1), .second, .val (.ref x2)] [(.ref x2), (.int (Int32.ofNat cnt)), (.ref dA)]))
        obtain ⟨w335, T335, L335, q335, Y335, st335⟩ := own_virt X334 hx hZ e334 f327 hown (own_at hw 56 rfl) (own_at hw 57 rfl) (own_at hw 59 rfl) (own_at hw 58 rfl) (own_at hw 24 rfl) (own_at hw 60 rfl) (by decide) (own_m7 l Z a0 hw [] x2 d h310 f329 ) (by decide) (W := 2) (by decide) (by decide) (by decide) (g := (mkF m 112 #[.val (.ref x0), .val (.long x1), .second, .val (.ref x2)] [(.ref x2), (.int (Int32.ofNat cnt)), (.ref dA)])) rfl (by rw [hml]; rfl) (argsL := []) (rest := [(.int (Int32.ofNat cnt)), (.ref dA)]) (lenOf pd_7 rfl) rfl (by show 2 * 0 + _ ≤ _; exact Nat.le_of_eq rfl) (hb hby d5_112)
        obtain ⟨e335, X335⟩ := own_clean q335 Y335 rfl rfl
        obtain ⟨rfl, -, -⟩ := q335
        refine own_Goes.step st335 ?_
        show own_Goes _ _ _ _ _ _ _ (T335.setTop (mkF m 115 #[.val (.ref x0), .val (.long x1), .second, .val (.ref x2)] [(.int (own_f7 d)), (.int (Int32.ofNat cnt)), (.ref dA)]))
        obtain ⟨T336, h336, X336, e336, W336, st336⟩ := own_zast X335 hx hZ e335 f325 (i := cnt) (own_toI (by omega)) hc16 (g := (mkF m 115 #[.val (.ref x0), .val (.long x1), .second, .val (.ref x2)] [(.int (own_f7 d)), (.int (Int32.ofNat cnt)), (.ref dA)])) rfl rfl (hb hby d5_115)
        refine own_Goes.step st336 ?_
        have f337 := f311.wr W336
        have f338 := f312.other W336 (Or.inl n3)
        have f339 := f313.other W336 (Or.inl n3)
        have f340 := f314.other W336 (Or.inl n3)
        have f341 := f315.other W336 (Or.inl n3)
        have f342 := f316.other W336 (Or.inl n3)
        have f343 := f317.other W336 (Or.inl n3)
        have f344 := f318.other W336 (Or.inl n3)
        have f345 := f319.other W336 (Or.inl n3)
        have f346 := f320.other W336 (Or.inl n3)
        have f347 := f321.other W336 (Or.inl n3)
        have f348 := f322.other W336 (Or.inl n3)
        have f349 := f323.other W336 n6
        have f350 := f324.other W336 n8
        have f351 : own_Ar Z h336 dA .boolean 16 (fun uu => .int ((fun j => if j = cnt then (nar .boolean (own_f7 d)) else D j) uu)) := (f325.set W336).congr fun j _ => by dsimp only; exact (apply_ite Value.int _ _ _).symm
        have f352 := f326.other W336 (Ne.symm n10)
        have f353 := f327.wr W336
        have f354 := f328.other W336 (Or.inl x4n)
        have f355 := f329.other W336 (Or.inl x4n)
        have K356 := K330.wr W336 (Or.inl (List.mem_of_getElem? (i := 3) rfl))
        have N357 := Fr.snoc X336 N331 gw3
        have Z358 : n0 ≤ h336.size := Nat.le_trans Z332 (Keep.of_wr W336).1
        show own_Goes _ _ _ _ _ _ _ (T336.setTop (mkF m 116 #[.val (.ref x0), .val (.long x1), .second, .val (.ref x2)] []))
        refine own_Goes.step (fun tq kq => XS.aloadN X336.here hx rfl (hb hby d5_116) rfl rfl kq) ?_
        show own_Goes _ _ _ _ _ _ _ (T336.setTop (mkF m 117 #[.val (.ref x0), .val (.long x1), .second, .val (.ref x2)] [(.ref x0)]))
        refine own_Goes.step (fun tq kq => XS.dup X336.here hx rfl (hb hby d5_117) rfl rfl kq) ?_
        show own_Goes _ _ _ _ _ _ _ (T336.setTop (mkF m 118 #[.val (.ref x0), .val (.long x1), .second, .val (.ref x2)] [(.ref x0), (.ref x0)]))
        obtain ⟨T359, X359, e359, st359⟩ := getF X336 hx hZ hown (host := "") (Or.inl (own_at hw 43 rfl)) Via.refl e336 f342 (g := (mkF m 118 #[.val (.ref x0), .val (.long x1), .second, .val (.ref x2)] [(.ref x0), (.ref x0)])) rfl rfl (hb hby d5_118)
        refine own_Goes.step st359 ?_
        show own_Goes _ _ _ _ _ _ _ (T359.setTop (mkF m 121 #[.val (.ref x0), .val (.long x1), .second, .val (.ref x2)] [(.int (Int32.ofNat cnt)), (.ref x0)]))
        refine own_Goes.step (fun tq kq => XT.iconstV X359.here hx rfl (1 : Int32) (hb hby d5_121) (by decide) kq) ?_
        show own_Goes _ _ _ _ _ _ _ (T359.setTop (mkF m 122 #[.val (.ref x0), .val (.long x1), .second, .val (.ref x2)] [(.int (1 : Int32)), (.int (Int32.ofNat cnt)), (.ref x0)]))
        refine own_Goes.step (fun tq kq => XS.iadd X359.here hx rfl (hb hby d5_122) rfl kq) ?_
        show own_Goes _ _ _ _ _ _ _ (T359.setTop (mkF m 123 #[.val (.ref x0), .val (.long x1), .second, .val (.ref x2)] [(.int ((Int32.ofNat cnt) + (1 : Int32))), (.ref x0)]))
        obtain ⟨T360, h360, X360, e360, W360, st360⟩ := putF X359 hx hZ hown (host := "") (Or.inl (own_at hw 43 rfl)) Via.refl e359 (v := (.int ((Int32.ofNat cnt) + (1 : Int32)))) f342 f337 (Or.inl (own_at hw 44 rfl)) (own_at hw 1 rfl) (ty := .int) (by decide) rfl rfl (g := (mkF m 123 #[.val (.ref x0), .val (.long x1), .second, .val (.ref x2)] [(.int ((Int32.ofNat cnt) + (1 : Int32))), (.ref x0)])) rfl rfl (hb hby d5_123)
        refine own_Goes.step st360 ?_
        have f361 := f337.wr W360
        have f362 := f338.other W360 (Or.inr (slot_ne (Or.inl (own_at hw 11 rfl)) (Or.inl (own_at hw 44 rfl)) (by decide) (t := (.array .long)) (t' := .int) (by decide) (by decide)))
        have f363 := f339.other W360 (Or.inr (slot_ne (Or.inl (own_at hw 13 rfl)) (Or.inl (own_at hw 44 rfl)) (by decide) (t := (.array .long)) (t' := .int) (by decide) (by decide)))
        have f364 := f340.other W360 (Or.inr (slot_ne (Or.inl (own_at hw 16 rfl)) (Or.inl (own_at hw 44 rfl)) (by decide) (t := (.array .boolean)) (t' := .int) (by decide) (by decide)))
        have f365 := f341.other W360 (Or.inr (slot_ne (Or.inl (own_at hw 19 rfl)) (Or.inl (own_at hw 44 rfl)) (by decide) (t := (.array .int)) (t' := .int) (by decide) (by decide)))
        have f366 := f342.same W360
        have f367 := f343.other W360 (Or.inr (slot_ne (Or.inl (own_at hw 51 rfl)) (Or.inl (own_at hw 44 rfl)) (by decide) (t := .long) (t' := .int) (by decide) (by decide)))
        have f368 := f344.other W360 (Or.inr (slot_ne (Or.inl (own_at hw 53 rfl)) (Or.inl (own_at hw 44 rfl)) (by decide) (t := .boolean) (t' := .int) (by decide) (by decide)))
        have f369 := f345.other W360 (Or.inr (slot_ne (Or.inl (own_at hw 55 rfl)) (Or.inl (own_at hw 44 rfl)) (by decide) (t := .boolean) (t' := .int) (by decide) (by decide)))
        have f370 := f346.other W360 (Or.inr (slot_ne (Or.inl (own_at hw 62 rfl)) (Or.inl (own_at hw 44 rfl)) (by decide) (t := (.array .int)) (t' := .int) (by decide) (by decide)))
        have f371 := f347.other W360 (Or.inr (slot_ne (Or.inl (own_at hw 69 rfl)) (Or.inl (own_at hw 44 rfl)) (by decide) (t := .int) (t' := .int) (by decide) (by decide)))
        have f372 := f348.other W360 (Or.inr (slot_ne (Or.inl (own_at hw 21 rfl)) (Or.inl (own_at hw 44 rfl)) (by decide) (t := .int) (t' := .int) (by decide) (by decide)))
        have f373 := f349.other W360 (Ne.symm n1)
        have f374 := f350.other W360 (Ne.symm n2)
        have f375 := f351.other W360 (Ne.symm n3)
        have f376 := f352.other W360 (Ne.symm n4)
        have f377 := f353.wr W360
        have f378 := f354.other W360 (Or.inl x1n)
        have f379 := f355.other W360 (Or.inl x1n)
        have K380 := K356.wr W360 (Or.inl (List.mem_of_getElem? (i := 0) rfl))
        have N381 := Fr.snoc X360 N357 gw0
        have Z382 : n0 ≤ h360.size := Nat.le_trans Z358 (Keep.of_wr W360).1
        show own_Goes _ _ _ _ _ _ _ (T360.setTop (mkF m 126 #[.val (.ref x0), .val (.long x1), .second, .val (.ref x2)] []))
        refine own_Goes.step (fun tq kq => XS.aloadN X360.here hx rfl (hb hby d5_126) rfl rfl kq) ?_
        show own_Goes _ _ _ _ _ _ _ (T360.setTop (mkF m 127 #[.val (.ref x0), .val (.long x1), .second, .val (.ref x2)] [(.ref x0)]))
        obtain ⟨T383, X383, e383, st383⟩ := getF X360 hx hZ hown (host := "") (Or.inl (own_at hw 61 rfl)) Via.refl e360 f370 (g := (mkF m 127 #[.val (.ref x0), .val (.long x1), .second, .val (.ref x2)] [(.ref x0)])) rfl rfl (hb hby d5_127)
        refine own_Goes.step st383 ?_
        show own_Goes _ _ _ _ _ _ _ (T383.setTop (mkF m 130 #[.val (.ref x0), .val (.long x1), .second, .val (.ref x2)] [.null]))
        refine own_Goes.step (fun tq kq => XS.ifnullYes X383.here hx rfl (pc0 := 130) (pc' := 143) rfl (hb hby d5_130) rfl (by decide) (by decide) kq) ?_
        show own_Goes _ _ _ _ _ _ _ (T383.setTop (mkF m 143 #[.val (.ref x0), .val (.long x1), .second, .val (.ref x2)] []))
        refine own_endV X383 hx Bd.notSynchronized Bd.returns (hb hby d5_143) ?_ (by decide) (by decide)
        show own_F5n Z x0 x1 x2 kA sA dA pA K Sz D cnt fs mx am la ix z d n0 h0 _ T383.heap _
        rw [e383]
        refine ⟨rfl, N381, K380, fs, (mx ||| (own_f5n_1 z fs)), (am ||| (own_f7 d)), fun q => absurd (by rw [q]; rfl) hc5, ?_⟩
        exact ⟨f361, f362, f363, f364, f365, (own_cnt cnt ▸ f366), f367, f368, f369, f370, f371, f372, f373, f374, f375, f376, n1, n2, n3, n4, n5, n6, n7, n8, n9, n10, gw0, gw1, gw2, gw3, (own_orb (by first | exact Or.inl rfl | exact hmx) (by unfold own_f5n_1; split <;> first | exact Or.inl rfl | exact Or.inr rfl)), (own_orb (by first | exact Or.inl rfl | exact ham) (own_d7 hd))⟩
      by_cases hc233 : (own_f6 z) = fs
      · refine own_Goes.step (fun tq kq => XS.ifYes X232.here hx rfl (pc0 := 55) (pc' := 62) rfl (hb hby d5_55) rfl (XT.ll_eq_t hc233) (by decide) (by decide) kq) ?_
        show own_Goes _ _ _ _ _ _ _ (T232.setTop (mkF m 62 #[.val (.ref x0), .val (.long x1), .second, .val (.ref x2)] [(.int mx), (.ref x0)]))
        refine own_Goes.step (fun tq kq => XT.iconstV X232.here hx rfl (0 : Int32) (hb hby d5_62) (by decide) kq) ?_
        show own_Goes _ _ _ _ _ _ _ (T232.setTop (mkF m 63 #[.val (.ref x0), .val (.long x1), .second, .val (.ref x2)] [(.int (0 : Int32)), (.int mx), (.ref x0)]))
        rw [show (own_f5n_1 z fs) = (0 : Int32) from by simp only [own_f5n_1, if_pos hc233]] at J385
        exact J385
      · refine own_Goes.step (fun tq kq => XS.ifNo X232.here hx rfl (hb hby d5_55) rfl (XT.ll_eq_f hc233) kq) ?_
        show own_Goes _ _ _ _ _ _ _ (T232.setTop (mkF m 58 #[.val (.ref x0), .val (.long x1), .second, .val (.ref x2)] [(.int mx), (.ref x0)]))
        refine own_Goes.step (fun tq kq => XT.iconstV X232.here hx rfl (1 : Int32) (hb hby d5_58) (by decide) kq) ?_
        show own_Goes _ _ _ _ _ _ _ (T232.setTop (mkF m 59 #[.val (.ref x0), .val (.long x1), .second, .val (.ref x2)] [(.int (1 : Int32)), (.int mx), (.ref x0)]))
        refine own_Goes.step (fun tq kq => XS.goto X232.here hx rfl (pc0 := 59) (pc' := 63) rfl (hb hby d5_59) (by decide) (by decide) kq) ?_
        show own_Goes _ _ _ _ _ _ _ (T232.setTop (mkF m 63 #[.val (.ref x0), .val (.long x1), .second, .val (.ref x2)] [(.int (1 : Int32)), (.int mx), (.ref x0)]))
        rw [show (own_f5n_1 z fs) = (1 : Int32) from by simp only [own_f5n_1, if_neg hc233]] at J385
        exact J385
  obtain ⟨t2, o2, q1, q2, q3, q4⟩ := hgo
  exact ⟨t2, o2, castTop (ef_5 m x0 x1 x2) q1, q2, q3, q4⟩
def own_f5s_1 (z fs : Int64) : Int32 := (if (own_f6 z) = fs then (0 : Int32) else (1 : Int32))
def own_F5s (Z : State) (x0 : Addr) (x1 : Int64) (x2 : Addr) (kA sA dA pA : Addr) (K Sz : Nat → Int64) (D : Nat → Int32) (cnt : Nat) (fs : Int64) (mx am la : Int32) (ix : Int32) (z : Int64) (d : Int32) (iA : Addr) (S : Nat → Int32) (tt : Nat) (n0 : Nat) (h0 : Heap) (v : Option Value) (h : Heap) (L : List Loc) : Prop := v = none ∧ Fr n0 L ∧ Keep h0 h [x0, kA, sA, dA, iA] ∧ ∃ (fs1 : Int64) (mx1 am1 : Int32), (cnt = 0 → fs1 = z ∧ mx1 = 0 ∧ am1 = d) ∧ (if S tt = (0 : Int32) then own_W Z h n0 x0 kA sA dA pA (.ref iA) (own_setJ K cnt x1) (own_setJ Sz cnt z) (own_set D cnt (nar .boolean (own_f7 d))) (cnt + 1) fs1 mx1 am1 (ix + (1 : Int32)) (Int32.ofNat tt) ∧ own_I Z h n0 x0 kA sA dA pA iA (own_set S tt (Int32.ofNat (cnt + 1))) else own_W Z h n0 x0 kA sA dA pA (.ref iA) (own_setJ K cnt x1) (own_setJ Sz cnt z) (own_set D cnt (nar .boolean (own_f7 d))) (cnt + 1) fs1 mx1 am1 ix (-1 : Int32) ∧ own_I Z h n0 x0 kA sA dA pA iA S)
set_option maxRecDepth 65536 in
set_option maxHeartbeats 40000000 in
theorem own_m5s (l : Launch) (Z : State) (a0 : Array Value) (hw : ∀ d ∈ tables_1, d.before a0 Z = true) (ws : List Jvm.Cond) (x0 : Addr) (x1 : Int64) (x2 : Addr) (kA sA dA pA : Addr) (K Sz : Nat → Int64) (D : Nat → Int32) (cnt : Nat) (fs : Int64) (mx am la : Int32) (ix : Int32) (z : Int64) (d : Int32) (iA : Addr) (S : Nat → Int32) (tt : Nat) (n0 : Nat) (h0 : Heap)  (B : own_W Z h0 n0 x0 kA sA dA pA (.ref iA) K Sz D cnt fs mx am ix la) (I : own_I Z h0 n0 x0 kA sA dA pA iA S) (EE : Exa Z h0 x2 "com/example/strati/strati/sim/Entry") (PE0 : Fld Z h0 x2 "com/example/strati/strati/sim/Entry" "size" "J" (.long z)) (PE1 : Fld Z h0 x2 "com/example/strati/strati/sim/Entry" "delete" "Z" (.int d)) (hd : d = 0 ∨ d = 1) (x1n : x2 ≠ x0) (x2n : x2 ≠ kA) (x3n : x2 ≠ sA) (x4n : x2 ≠ dA) (x6n : x2 ≠ pA) (hc16 : cnt < 16) (x5n : x2 ≠ iA) (hS : own_OK S) (hm : own_sl (own_setJ K cnt x1) S x1 16 (own_h x1) = some tt) (htt : tt < 16) (hix : ¬ (16 : Int32) < (2 : Int32) * (ix + (1 : Int32))) :
    MetFree l (⟨"com/example/strati/strati/sim/WriteBuffer", "put", "(JLcom/example/strati/strati/sim/Entry;)V"⟩ : MethodName) (head1 (Jvm.Cond.code (⟨"com/example/strati/strati/sim/WriteBuffer", "put", "(JLcom/example/strati/strati/sim/Entry;)V"⟩ : MethodName) prog_67_method_2_code 4 none :: ws) ({ frames := 3, cells := 0, slots := 0, locals := 46 } : Room)) (fun a U => a = #[(.ref x0), (.long x1), (.ref x2)] ∧ Z.Warmed39 U.vm ∧ U.heap = h0) (fun _ _ _ _ _ => True) (fun _ U o U' => ∃ v L, o = .returned v ∧ own_F5s Z x0 x1 x2 kA sA dA pA K Sz D cnt fs mx am la ix z d iA S tt n0 h0 v U'.heap L ∧ FrameEnd U o U' L ({ frames := 3, cells := 0, slots := 0, locals := 46 } : Room).cells ({ frames := 3, cells := 0, slots := 0, locals := 46 } : Room).slots) := by
  refine MetFree.of_bodySF (plainFor_of_name pn_5) hisR ?_
  intro p e s m args below meth c s₁ Bd hml0 hP hK
  obtain ⟨rfl, hZ, hh⟩ := hP
  have hx := Bd.exec
  have hby := Bd.bytes
  have hml : c.maxLocals = 4 := hml0
  have hown : s.vm.findClass "com/example/strati/strati/sim/WriteBuffer" = some m.cls := findClass_of_methodNamed Bd.named
  have hnm := (name_of_methodNamed Bd.named Bd.method).1
  have X0 : Stand p l e ({ frames := 3, cells := 0, slots := 0, locals := 46 } : Room) s m #[(.ref x0), (.long x1), (.ref x2)] below meth c s₁ [] 0 0 := Stand.of_body Bd
  have e0 : s₁.heap = h0 := by rw [← hh, Bd.state]; rfl
  obtain ⟨E0, P0, P1, P2, P3, P4, P5, P6, P7, P8, P9, P10, R0, R1, R2, R3, n1, n2, n3, n4, n5, n6, n7, n8, n9, n10, gw0, gw1, gw2, gw3, hmx, ham⟩ := B
  obtain ⟨RI, m1, m2, m3, m4, m5, gi⟩ := I
  have Z0 : n0 ≤ h0.size := Nat.le_trans gw0 (Nat.le_of_lt E0.lt)
  have N0 := Fr.nil n0
  have K0 : Keep h0 h0 [x0, kA, sA, dA, iA] := Keep.refl h0 [x0, kA, sA, dA, iA]
  have hgo : own_Goes p e below s (own_F5s Z x0 x1 x2 kA sA dA pA K Sz D cnt fs mx am la ix z d iA S tt n0 h0) 0 0 (s₁.setTop (mkF m 0 #[.val (.ref x0), .val (.long x1), .second, .val (.ref x2)] [])) := by
    refine own_Goes.step (fun tq kq => XS.aloadN X0.here hx rfl (hb hby d5_0) rfl rfl kq) ?_
    show own_Goes _ _ _ _ _ _ _ (s₁.setTop (mkF m 1 #[.val (.ref x0), .val (.long x1), .second, .val (.ref x2)] [(.ref x0)]))
    obtain ⟨T1, X1, e1, st1⟩ := getF X0 hx hZ hown (host := "") (Or.inl (own_at hw 43 rfl)) Via.refl e0 P4 (g := (mkF m 1 #[.val (.ref x0), .val (.long x1), .second, .val (.ref x2)] [(.ref x0)])) rfl rfl (hb hby d5_1)
    refine own_Goes.step st1 ?_
    show own_Goes _ _ _ _ _ _ _ (T1.setTop (mkF m 4 #[.val (.ref x0), .val (.long x1), .second, .val (.ref x2)] [(.int (Int32.ofNat cnt))]))
    refine own_Goes.step (fun tq kq => XS.aloadN X1.here hx rfl (hb hby d5_4) rfl rfl kq) ?_
    show own_Goes _ _ _ _ _ _ _ (T1.setTop (mkF m 5 #[.val (.ref x0), .val (.long x1), .second, .val (.ref x2)] [(.ref x0), (.int (Int32.ofNat cnt))]))
    obtain ⟨T2, X2, e2, st2⟩ := getF X1 hx hZ hown (host := "") (Or.inl (own_at hw 10 rfl)) Via.refl e1 P0 (g := (mkF m 5 #[.val (.ref x0), .val (.long x1), .second, .val (.ref x2)] [(.ref x0), (.int (Int32.ofNat cnt))])) rfl rfl (hb hby d5_5)
    refine own_Goes.step st2 ?_
    show own_Goes _ _ _ _ _ _ _ (T2.setTop (mkF m 8 #[.val (.ref x0), .val (.long x1), .second, .val (.ref x2)] [(.ref kA), (.int (Int32.ofNat cnt))]))
    refine own_Goes.step (own_alen X2 hx hZ e2 R0 (z := (16 : Int32)) (by decide) (g := (mkF m 8 #[.val (.ref x0), .val (.long x1), .second, .val (.ref x2)] [(.ref kA), (.int (Int32.ofNat cnt))])) rfl rfl (hb hby d5_8)) ?_
    show own_Goes _ _ _ _ _ _ _ (T2.setTop (mkF m 9 #[.val (.ref x0), .val (.long x1), .second, .val (.ref x2)] [(.int (16 : Int32)), (.int (Int32.ofNat cnt))]))
    refine own_Goes.step (fun tq kq => XS.icmpYes X2.here hx rfl (pc0 := 9) (pc' := 16) rfl (hb hby d5_9) rfl (XT.ii_ne_t (own_c16 hc16)) (by decide) (by decide) kq) ?_
    show own_Goes _ _ _ _ _ _ _ (T2.setTop (mkF m 16 #[.val (.ref x0), .val (.long x1), .second, .val (.ref x2)] []))
    refine own_Goes.step (fun tq kq => XS.aloadN X2.here hx rfl (hb hby d5_16) rfl rfl kq) ?_
    show own_Goes _ _ _ _ _ _ _ (T2.setTop (mkF m 17 #[.val (.ref x0), .val (.long x1), .second, .val (.ref x2)] [(.ref x0)]))
    obtain ⟨T4, X4, e4, st4⟩ := getF X2 hx hZ hown (host := "") (Or.inl (own_at hw 43 rfl)) Via.refl e2 P4 (g := (mkF m 17 #[.val (.ref x0), .val (.long x1), .second, .val (.ref x2)] [(.ref x0)])) rfl rfl (hb hby d5_17)
    refine own_Goes.step st4 ?_
    show own_Goes _ _ _ _ _ _ _ (T4.setTop (mkF m 20 #[.val (.ref x0), .val (.long x1), .second, .val (.ref x2)] [(.int (Int32.ofNat cnt))]))
    by_cases hc5 : (Int32.ofNat cnt) = (0 : Int32)
    · refine own_Goes.step (fun tq kq => XS.ifNo X4.here hx rfl (hb hby d5_20) rfl (XT.i0_ne_f hc5) kq) ?_
      show own_Goes _ _ _ _ _ _ _ (T4.setTop (mkF m 23 #[.val (.ref x0), .val (.long x1), .second, .val (.ref x2)] []))
      refine own_Goes.step (fun tq kq => XS.aloadN X4.here hx rfl (hb hby d5_23) rfl rfl kq) ?_
      show own_Goes _ _ _ _ _ _ _ (T4.setTop (mkF m 24 #[.val (.ref x0), .val (.long x1), .second, .val (.ref x2)] [(.ref x0)]))
      refine own_Goes.step (fun tq kq => XS.aloadN X4.here hx rfl (hb hby d5_24) rfl rfl kq) ?_
      show own_Goes _ _ _ _ _ _ _ (T4.setTop (mkF m 25 #[.val (.ref x0), .val (.long x1), .second, .val (.ref x2)] [(.ref x2), (.ref x0)]))
      obtain ⟨w6, T6, L6, q6, Y6, st6⟩ := own_virt X4 hx hZ e4 EE hown (own_at hw 45 rfl) (own_at hw 46 rfl) (own_at hw 48 rfl) (own_at hw 47 rfl) (own_at hw 24 rfl) (own_at hw 49 rfl) (by decide) (own_m6 l Z a0 hw [] x2 z h0 PE0 ) (by decide) (W := 1) (by decide) (by decide) (by decide) (g := (mkF m 25 #[.val (.ref x0), .val (.long x1), .second, .val (.ref x2)] [(.ref x2), (.ref x0)])) rfl (by rw [hml]; rfl) (argsL := []) (rest := [(.ref x0)]) (lenOf pd_6 rfl) rfl (by show 2 * 0 + _ ≤ _; exact Nat.le_of_eq rfl) (hb hby d5_25)
      obtain ⟨e6, X6⟩ := own_clean q6 Y6 rfl rfl
      obtain ⟨rfl, -, -⟩ := q6
      refine own_Goes.step st6 ?_
      show own_Goes _ _ _ _ _ _ _ (T6.setTop (mkF m 28 #[.val (.ref x0), .val (.long x1), .second, .val (.ref x2)] [(.long (own_f6 z)), (.ref x0)]))
      obtain ⟨T7, h7, X7, e7, W7, st7⟩ := putF X6 hx hZ hown (host := "") (Or.inl (own_at hw 50 rfl)) Via.refl e6 (v := (.long (own_f6 z))) P5 E0 (Or.inl (own_at hw 51 rfl)) (own_at hw 1 rfl) (ty := .long) (by decide) rfl rfl (g := (mkF m 28 #[.val (.ref x0), .val (.long x1), .second, .val (.ref x2)] [(.long (own_f6 z)), (.ref x0)])) rfl rfl (hb hby d5_28)
      refine own_Goes.step st7 ?_
      have f8 := E0.wr W7
      have f9 := P0.other W7 (Or.inr (slot_ne (Or.inl (own_at hw 11 rfl)) (Or.inl (own_at hw 51 rfl)) (by decide) (t := (.array .long)) (t' := .long) (by decide) (by decide)))
      have f10 := P1.other W7 (Or.inr (slot_ne (Or.inl (own_at hw 13 rfl)) (Or.inl (own_at hw 51 rfl)) (by decide) (t := (.array .long)) (t' := .long) (by decide) (by decide)))
      have f11 := P2.other W7 (Or.inr (slot_ne (Or.inl (own_at hw 16 rfl)) (Or.inl (own_at hw 51 rfl)) (by decide) (t := (.array .boolean)) (t' := .long) (by decide) (by decide)))
      have f12 := P3.other W7 (Or.inr (slot_ne (Or.inl (own_at hw 19 rfl)) (Or.inl (own_at hw 51 rfl)) (by decide) (t := (.array .int)) (t' := .long) (by decide) (by decide)))
      have f13 := P4.other W7 (Or.inr (slot_ne (Or.inl (own_at hw 44 rfl)) (Or.inl (own_at hw 51 rfl)) (by decide) (t := .int) (t' := .long) (by decide) (by decide)))
      have f14 := P5.same W7
      have f15 := P6.other W7 (Or.inr (slot_ne (Or.inl (own_at hw 53 rfl)) (Or.inl (own_at hw 51 rfl)) (by decide) (t := .boolean) (t' := .long) (by decide) (by decide)))
      have f16 := P7.other W7 (Or.inr (slot_ne (Or.inl (own_at hw 55 rfl)) (Or.inl (own_at hw 51 rfl)) (by decide) (t := .boolean) (t' := .long) (by decide) (by decide)))
      have f17 := P8.other W7 (Or.inr (slot_ne (Or.inl (own_at hw 62 rfl)) (Or.inl (own_at hw 51 rfl)) (by decide) (t := (.array .int)) (t' := .long) (by decide) (by decide)))
      have f18 := P9.other W7 (Or.inr (slot_ne (Or.inl (own_at hw 69 rfl)) (Or.inl (own_at hw 51 rfl)) (by decide) (t := .int) (t' := .long) (by decide) (by decide)))
      have f19 := P10.other W7 (Or.inr (slot_ne (Or.inl (own_at hw 21 rfl)) (Or.inl (own_at hw 51 rfl)) (by decide) (t := .int) (t' := .long) (by decide) (by decide)))
      have f20 := R0.other W7 (Ne.symm n1)
      have f21 := R1.other W7 (Ne.symm n2)
      have f22 := R2.other W7 (Ne.symm n3)
      have f23 := R3.other W7 (Ne.symm n4)
      have f24 := RI.other W7 (Ne.symm m1)
      have f25 := EE.wr W7
      have f26 := PE0.other W7 (Or.inl x1n)
      have f27 := PE1.other W7 (Or.inl x1n)
      have K28 := K0.wr W7 (Or.inl (List.mem_of_getElem? (i := 0) rfl))
      have N29 := Fr.snoc X7 N0 gw0
      have Z30 : n0 ≤ h7.size := Nat.le_trans Z0 (Keep.of_wr W7).1
      show own_Goes _ _ _ _ _ _ _ (T7.setTop (mkF m 31 #[.val (.ref x0), .val (.long x1), .second, .val (.ref x2)] []))
      refine own_Goes.step (fun tq kq => XS.aloadN X7.here hx rfl (hb hby d5_31) rfl rfl kq) ?_
      show own_Goes _ _ _ _ _ _ _ (T7.setTop (mkF m 32 #[.val (.ref x0), .val (.long x1), .second, .val (.ref x2)] [(.ref x0)]))
      refine own_Goes.step (fun tq kq => XT.iconstV X7.here hx rfl (0 : Int32) (hb hby d5_32) (by decide) kq) ?_
      show own_Goes _ _ _ _ _ _ _ (T7.setTop (mkF m 33 #[.val (.ref x0), .val (.long x1), .second, .val (.ref x2)] [(.int (0 : Int32)), (.ref x0)]))
      obtain ⟨T31, h31, X31, e31, W31, st31⟩ := putF X7 hx hZ hown (host := "") (Or.inl (own_at hw 52 rfl)) Via.refl e7 (v := (.int (0 : Int32))) f15 f8 (Or.inl (own_at hw 53 rfl)) (own_at hw 1 rfl) (ty := .boolean) (by decide) rfl rfl (g := (mkF m 33 #[.val (.ref x0), .val (.long x1), .second, .val (.ref x2)] [(.int (0 : Int32)), (.ref x0)])) rfl rfl (hb hby d5_33)
      refine own_Goes.step st31 ?_
      have f32 := f8.wr W31
      have f33 := f9.other W31 (Or.inr (slot_ne (Or.inl (own_at hw 11 rfl)) (Or.inl (own_at hw 53 rfl)) (by decide) (t := (.array .long)) (t' := .boolean) (by decide) (by decide)))
      have f34 := f10.other W31 (Or.inr (slot_ne (Or.inl (own_at hw 13 rfl)) (Or.inl (own_at hw 53 rfl)) (by decide) (t := (.array .long)) (t' := .boolean) (by decide) (by decide)))
      have f35 := f11.other W31 (Or.inr (slot_ne (Or.inl (own_at hw 16 rfl)) (Or.inl (own_at hw 53 rfl)) (by decide) (t := (.array .boolean)) (t' := .boolean) (by decide) (by decide)))
      have f36 := f12.other W31 (Or.inr (slot_ne (Or.inl (own_at hw 19 rfl)) (Or.inl (own_at hw 53 rfl)) (by decide) (t := (.array .int)) (t' := .boolean) (by decide) (by decide)))
      have f37 := f13.other W31 (Or.inr (slot_ne (Or.inl (own_at hw 44 rfl)) (Or.inl (own_at hw 53 rfl)) (by decide) (t := .int) (t' := .boolean) (by decide) (by decide)))
      have f38 := f14.other W31 (Or.inr (slot_ne (Or.inl (own_at hw 51 rfl)) (Or.inl (own_at hw 53 rfl)) (by decide) (t := .long) (t' := .boolean) (by decide) (by decide)))
      have f39 := f15.same W31
      have f40 := f16.other W31 (Or.inr (slot_ne (Or.inl (own_at hw 55 rfl)) (Or.inl (own_at hw 53 rfl)) (by decide) (t := .boolean) (t' := .boolean) (by decide) (by decide)))
      have f41 := f17.other W31 (Or.inr (slot_ne (Or.inl (own_at hw 62 rfl)) (Or.inl (own_at hw 53 rfl)) (by decide) (t := (.array .int)) (t' := .boolean) (by decide) (by decide)))
      have f42 := f18.other W31 (Or.inr (slot_ne (Or.inl (own_at hw 69 rfl)) (Or.inl (own_at hw 53 rfl)) (by decide) (t := .int) (t' := .boolean) (by decide) (by decide)))
      have f43 := f19.other W31 (Or.inr (slot_ne (Or.inl (own_at hw 21 rfl)) (Or.inl (own_at hw 53 rfl)) (by decide) (t := .int) (t' := .boolean) (by decide) (by decide)))
      have f44 := f20.other W31 (Ne.symm n1)
      have f45 := f21.other W31 (Ne.symm n2)
      have f46 := f22.other W31 (Ne.symm n3)
      have f47 := f23.other W31 (Ne.symm n4)
      have f48 := f24.other W31 (Ne.symm m1)
      have f49 := f25.wr W31
      have f50 := f26.other W31 (Or.inl x1n)
      have f51 := f27.other W31 (Or.inl x1n)
      have K52 := K28.wr W31 (Or.inl (List.mem_of_getElem? (i := 0) rfl))
      have N53 := Fr.snoc X31 N29 gw0
      have Z54 : n0 ≤ h31.size := Nat.le_trans Z30 (Keep.of_wr W31).1
      show own_Goes _ _ _ _ _ _ _ (T31.setTop (mkF m 36 #[.val (.ref x0), .val (.long x1), .second, .val (.ref x2)] []))
      refine own_Goes.step (fun tq kq => XS.aloadN X31.here hx rfl (hb hby d5_36) rfl rfl kq) ?_
      show own_Goes _ _ _ _ _ _ _ (T31.setTop (mkF m 37 #[.val (.ref x0), .val (.long x1), .second, .val (.ref x2)] [(.ref x0)]))
      refine own_Goes.step (fun tq kq => XT.iconstV X31.here hx rfl (0 : Int32) (hb hby d5_37) (by decide) kq) ?_
      show own_Goes _ _ _ _ _ _ _ (T31.setTop (mkF m 38 #[.val (.ref x0), .val (.long x1), .second, .val (.ref x2)] [(.int (0 : Int32)), (.ref x0)]))
      obtain ⟨T55, h55, X55, e55, W55, st55⟩ := putF X31 hx hZ hown (host := "") (Or.inl (own_at hw 54 rfl)) Via.refl e31 (v := (.int (0 : Int32))) f40 f32 (Or.inl (own_at hw 55 rfl)) (own_at hw 1 rfl) (ty := .boolean) (by decide) rfl rfl (g := (mkF m 38 #[.val (.ref x0), .val (.long x1), .second, .val (.ref x2)] [(.int (0 : Int32)), (.ref x0)])) rfl rfl (hb hby d5_38)
      refine own_Goes.step st55 ?_
      have f56 := f32.wr W55
      have f57 := f33.other W55 (Or.inr (slot_ne (Or.inl (own_at hw 11 rfl)) (Or.inl (own_at hw 55 rfl)) (by decide) (t := (.array .long)) (t' := .boolean) (by decide) (by decide)))
      have f58 := f34.other W55 (Or.inr (slot_ne (Or.inl (own_at hw 13 rfl)) (Or.inl (own_at hw 55 rfl)) (by decide) (t := (.array .long)) (t' := .boolean) (by decide) (by decide)))
      have f59 := f35.other W55 (Or.inr (slot_ne (Or.inl (own_at hw 16 rfl)) (Or.inl (own_at hw 55 rfl)) (by decide) (t := (.array .boolean)) (t' := .boolean) (by decide) (by decide)))
      have f60 := f36.other W55 (Or.inr (slot_ne (Or.inl (own_at hw 19 rfl)) (Or.inl (own_at hw 55 rfl)) (by decide) (t := (.array .int)) (t' := .boolean) (by decide) (by decide)))
      have f61 := f37.other W55 (Or.inr (slot_ne (Or.inl (own_at hw 44 rfl)) (Or.inl (own_at hw 55 rfl)) (by decide) (t := .int) (t' := .boolean) (by decide) (by decide)))
      have f62 := f38.other W55 (Or.inr (slot_ne (Or.inl (own_at hw 51 rfl)) (Or.inl (own_at hw 55 rfl)) (by decide) (t := .long) (t' := .boolean) (by decide) (by decide)))
      have f63 := f39.other W55 (Or.inr (slot_ne (Or.inl (own_at hw 53 rfl)) (Or.inl (own_at hw 55 rfl)) (by decide) (t := .boolean) (t' := .boolean) (by decide) (by decide)))
      have f64 := f40.same W55
      have f65 := f41.other W55 (Or.inr (slot_ne (Or.inl (own_at hw 62 rfl)) (Or.inl (own_at hw 55 rfl)) (by decide) (t := (.array .int)) (t' := .boolean) (by decide) (by decide)))
      have f66 := f42.other W55 (Or.inr (slot_ne (Or.inl (own_at hw 69 rfl)) (Or.inl (own_at hw 55 rfl)) (by decide) (t := .int) (t' := .boolean) (by decide) (by decide)))
      have f67 := f43.other W55 (Or.inr (slot_ne (Or.inl (own_at hw 21 rfl)) (Or.inl (own_at hw 55 rfl)) (by decide) (t := .int) (t' := .boolean) (by decide) (by decide)))
      have f68 := f44.other W55 (Ne.symm n1)
      have f69 := f45.other W55 (Ne.symm n2)
      have f70 := f46.other W55 (Ne.symm n3)
      have f71 := f47.other W55 (Ne.symm n4)
      have f72 := f48.other W55 (Ne.symm m1)
      have f73 := f49.wr W55
      have f74 := f50.other W55 (Or.inl x1n)
      have f75 := f51.other W55 (Or.inl x1n)
      have K76 := K52.wr W55 (Or.inl (List.mem_of_getElem? (i := 0) rfl))
      have N77 := Fr.snoc X55 N53 gw0
      have Z78 : n0 ≤ h55.size := Nat.le_trans Z54 (Keep.of_wr W55).1
      show own_Goes _ _ _ _ _ _ _ (T55.setTop (mkF m 41 #[.val (.ref x0), .val (.long x1), .second, .val (.ref x2)] []))
      refine own_Goes.step (fun tq kq => XS.aloadN X55.here hx rfl (hb hby d5_41) rfl rfl kq) ?_
      show own_Goes _ _ _ _ _ _ _ (T55.setTop (mkF m 42 #[.val (.ref x0), .val (.long x1), .second, .val (.ref x2)] [(.ref x0)]))
      refine own_Goes.step (fun tq kq => XS.dup X55.here hx rfl (hb hby d5_42) rfl rfl kq) ?_
      show own_Goes _ _ _ _ _ _ _ (T55.setTop (mkF m 43 #[.val (.ref x0), .val (.long x1), .second, .val (.ref x2)] [(.ref x0), (.ref x0)]))
      obtain ⟨T79, X79, e79, st79⟩ := getF X55 hx hZ hown (host := "") (Or.inl (own_at hw 52 rfl)) Via.refl e55 f63 (g := (mkF m 43 #[.val (.ref x0), .val (.long x1), .second, .val (.ref x2)] [(.ref x0), (.ref x0)])) rfl rfl (hb hby d5_43)
      refine own_Goes.step st79 ?_
      show own_Goes _ _ _ _ _ _ _ (T79.setTop (mkF m 46 #[.val (.ref x0), .val (.long x1), .second, .val (.ref x2)] [(.int (0 : Int32)), (.ref x0)]))
      refine own_Goes.step (fun tq kq => XS.aloadN X79.here hx rfl (hb hby d5_46) rfl rfl kq) ?_
      show own_Goes _ _ _ _ _ _ _ (T79.setTop (mkF m 47 #[.val (.ref x0), .val (.long x1), .second, .val (.ref x2)] [(.ref x2), (.int (0 : Int32)), (.ref x0)]))
      obtain ⟨w80, T80, L80, q80, Y80, st80⟩ := own_virt X79 hx hZ e79 f73 hown (own_at hw 45 rfl) (own_at hw 46 rfl) (own_at hw 48 rfl) (own_at hw 47 rfl) (own_at hw 24 rfl) (own_at hw 49 rfl) (by decide) (own_m6 l Z a0 hw [] x2 z h55 f74 ) (by decide) (W := 2) (by decide) (by decide) (by decide) (g := (mkF m 47 #[.val (.ref x0), .val (.long x1), .second, .val (.ref x2)] [(.ref x2), (.int (0 : Int32)), (.ref x0)])) rfl (by rw [hml]; rfl) (argsL := []) (rest := [(.int (0 : Int32)), (.ref x0)]) (lenOf pd_6 rfl) rfl (by show 2 * 0 + _ ≤ _; exact Nat.le_of_eq rfl) (hb hby d5_47)
      obtain ⟨e80, X80⟩ := own_clean q80 Y80 rfl rfl
      obtain ⟨rfl, -, -⟩ := q80
      refine own_Goes.step st80 ?_
      show own_Goes _ _ _ _ _ _ _ (T80.setTop (mkF m 50 #[.val (.ref x0), .val (.long x1), .second, .val (.ref x2)] [(.long (own_f6 z)), (.int (0 : Int32)), (.ref x0)]))
      refine own_Goes.step (fun tq kq => XS.aloadN X80.here hx rfl (hb hby d5_50) rfl rfl kq) ?_
      show own_Goes _ _ _ _ _ _ _ (T80.setTop (mkF m 51 #[.val (.ref x0), .val (.long x1), .second, .val (.ref x2)] [(.ref x0), (.long (own_f6 z)), (.int (0 : Int32)), (.ref x0)]))
      obtain ⟨T81, X81, e81, st81⟩ := getF X80 hx hZ hown (host := "") (Or.inl (own_at hw 50 rfl)) Via.refl e80 f62 (g := (mkF m 51 #[.val (.ref x0), .val (.long x1), .second, .val (.ref x2)] [(.ref x0), (.long (own_f6 z)), (.int (0 : Int32)), (.ref x0)])) rfl rfl (hb hby d5_51)
      refine own_Goes.step st81 ?_
      show own_Goes _ _ _ _ _ _ _ (T81.setTop (mkF m 54 #[.val (.ref x0), .val (.long x1), .second, .val (.ref x2)] [(.long (own_f6 z)), (.long (own_f6 z)), (.int (0 : Int32)), (.ref x0)]))
      refine own_Goes.step (fun tq kq => XT.lcmp X81.here hx rfl (hb hby d5_54) rfl kq) ?_
      show own_Goes _ _ _ _ _ _ _ (T81.setTop (mkF m 55 #[.val (.ref x0), .val (.long x1), .second, .val (.ref x2)] [(.int (XT.cmpL (own_f6 z) (own_f6 z))), (.int (0 : Int32)), (.ref x0)]))
      refine own_Goes.step (fun tq kq => XS.ifYes X81.here hx rfl (pc0 := 55) (pc' := 62) rfl (hb hby d5_55) rfl (XT.ll_eq_t (rfl)) (by decide) (by decide) kq) ?_
      show own_Goes _ _ _ _ _ _ _ (T81.setTop (mkF m 62 #[.val (.ref x0), .val (.long x1), .second, .val (.ref x2)] [(.int (0 : Int32)), (.ref x0)]))
      refine own_Goes.step (fun tq kq => XT.iconstV X81.here hx rfl (0 : Int32) (hb hby d5_62) (by decide) kq) ?_
      show own_Goes _ _ _ _ _ _ _ (T81.setTop (mkF m 63 #[.val (.ref x0), .val (.long x1), .second, .val (.ref x2)] [(.int (0 : Int32)), (.int (0 : Int32)), (.ref x0)]))
      refine own_Goes.step (fun tq kq => XT.ior X81.here hx rfl (hb hby d5_63) rfl kq) ?_
      show own_Goes _ _ _ _ _ _ _ (T81.setTop (mkF m 64 #[.val (.ref x0), .val (.long x1), .second, .val (.ref x2)] [(.int ((0 : Int32) ||| (0 : Int32))), (.ref x0)]))
      obtain ⟨T82, h82, X82, e82, W82, st82⟩ := putF X81 hx hZ hown (host := "") (Or.inl (own_at hw 52 rfl)) Via.refl e81 (v := (.int ((0 : Int32) ||| (0 : Int32)))) f63 f56 (Or.inl (own_at hw 53 rfl)) (own_at hw 1 rfl) (ty := .boolean) (by decide) rfl rfl (g := (mkF m 64 #[.val (.ref x0), .val (.long x1), .second, .val (.ref x2)] [(.int ((0 : Int32) ||| (0 : Int32))), (.ref x0)])) rfl rfl (hb hby d5_64)
      refine own_Goes.step st82 ?_
      have f83 := f56.wr W82
      have f84 := f57.other W82 (Or.inr (slot_ne (Or.inl (own_at hw 11 rfl)) (Or.inl (own_at hw 53 rfl)) (by decide) (t := (.array .long)) (t' := .boolean) (by decide) (by decide)))
      have f85 := f58.other W82 (Or.inr (slot_ne (Or.inl (own_at hw 13 rfl)) (Or.inl (own_at hw 53 rfl)) (by decide) (t := (.array .long)) (t' := .boolean) (by decide) (by decide)))
      have f86 := f59.other W82 (Or.inr (slot_ne (Or.inl (own_at hw 16 rfl)) (Or.inl (own_at hw 53 rfl)) (by decide) (t := (.array .boolean)) (t' := .boolean) (by decide) (by decide)))
      have f87 := f60.other W82 (Or.inr (slot_ne (Or.inl (own_at hw 19 rfl)) (Or.inl (own_at hw 53 rfl)) (by decide) (t := (.array .int)) (t' := .boolean) (by decide) (by decide)))
      have f88 := f61.other W82 (Or.inr (slot_ne (Or.inl (own_at hw 44 rfl)) (Or.inl (own_at hw 53 rfl)) (by decide) (t := .int) (t' := .boolean) (by decide) (by decide)))
      have f89 := f62.other W82 (Or.inr (slot_ne (Or.inl (own_at hw 51 rfl)) (Or.inl (own_at hw 53 rfl)) (by decide) (t := .long) (t' := .boolean) (by decide) (by decide)))
      have f90 := f63.same W82
      have f91 := f64.other W82 (Or.inr (slot_ne (Or.inl (own_at hw 55 rfl)) (Or.inl (own_at hw 53 rfl)) (by decide) (t := .boolean) (t' := .boolean) (by decide) (by decide)))
      have f92 := f65.other W82 (Or.inr (slot_ne (Or.inl (own_at hw 62 rfl)) (Or.inl (own_at hw 53 rfl)) (by decide) (t := (.array .int)) (t' := .boolean) (by decide) (by decide)))
      have f93 := f66.other W82 (Or.inr (slot_ne (Or.inl (own_at hw 69 rfl)) (Or.inl (own_at hw 53 rfl)) (by decide) (t := .int) (t' := .boolean) (by decide) (by decide)))
      have f94 := f67.other W82 (Or.inr (slot_ne (Or.inl (own_at hw 21 rfl)) (Or.inl (own_at hw 53 rfl)) (by decide) (t := .int) (t' := .boolean) (by decide) (by decide)))
      have f95 := f68.other W82 (Ne.symm n1)
      have f96 := f69.other W82 (Ne.symm n2)
      have f97 := f70.other W82 (Ne.symm n3)
      have f98 := f71.other W82 (Ne.symm n4)
      have f99 := f72.other W82 (Ne.symm m1)
      have f100 := f73.wr W82
      have f101 := f74.other W82 (Or.inl x1n)
      have f102 := f75.other W82 (Or.inl x1n)
      have K103 := K76.wr W82 (Or.inl (List.mem_of_getElem? (i := 0) rfl))
      have N104 := Fr.snoc X82 N77 gw0
      have Z105 : n0 ≤ h82.size := Nat.le_trans Z78 (Keep.of_wr W82).1
      show own_Goes _ _ _ _ _ _ _ (T82.setTop (mkF m 67 #[.val (.ref x0), .val (.long x1), .second, .val (.ref x2)] []))
      refine own_Goes.step (fun tq kq => XS.aloadN X82.here hx rfl (hb hby d5_67) rfl rfl kq) ?_
      show own_Goes _ _ _ _ _ _ _ (T82.setTop (mkF m 68 #[.val (.ref x0), .val (.long x1), .second, .val (.ref x2)] [(.ref x0)]))
      refine own_Goes.step (fun tq kq => XS.dup X82.here hx rfl (hb hby d5_68) rfl rfl kq) ?_
      show own_Goes _ _ _ _ _ _ _ (T82.setTop (mkF m 69 #[.val (.ref x0), .val (.long x1), .second, .val (.ref x2)] [(.ref x0), (.ref x0)]))
      obtain ⟨T106, X106, e106, st106⟩ := getF X82 hx hZ hown (host := "") (Or.inl (own_at hw 54 rfl)) Via.refl e82 f91 (g := (mkF m 69 #[.val (.ref x0), .val (.long x1), .second, .val (.ref x2)] [(.ref x0), (.ref x0)])) rfl rfl (hb hby d5_69)
      refine own_Goes.step st106 ?_
      show own_Goes _ _ _ _ _ _ _ (T106.setTop (mkF m 72 #[.val (.ref x0), .val (.long x1), .second, .val (.ref x2)] [(.int (0 : Int32)), (.ref x0)]))
      refine own_Goes.step (fun tq kq => XS.aloadN X106.here hx rfl (hb hby d5_72) rfl rfl kq) ?_
      show own_Goes _ _ _ _ _ _ _ (T106.setTop (mkF m 73 #[.val (.ref x0), .val (.long x1), .second, .val (.ref x2)] [(.ref x2), (.int (0 : Int32)), (.ref x0)]))
      obtain ⟨w107, T107, L107, q107, Y107, st107⟩ := own_virt X106 hx hZ e106 f100 hown (own_at hw 56 rfl) (own_at hw 57 rfl) (own_at hw 59 rfl) (own_at hw 58 rfl) (own_at hw 24 rfl) (own_at hw 60 rfl) (by decide) (own_m7 l Z a0 hw [] x2 d h82 f102 ) (by decide) (W := 2) (by decide) (by decide) (by decide) (g := (mkF m 73 #[.val (.ref x0), .val (.long x1), .second, .val (.ref x2)] [(.ref x2), (.int (0 : Int32)), (.ref x0)])) rfl (by rw [hml]; rfl) (argsL := []) (rest := [(.int (0 : Int32)), (.ref x0)]) (lenOf pd_7 rfl) rfl (by show 2 * 0 + _ ≤ _; exact Nat.le_of_eq rfl) (hb hby d5_73)
      obtain ⟨e107, X107⟩ := own_clean q107 Y107 rfl rfl
      obtain ⟨rfl, -, -⟩ := q107
      refine own_Goes.step st107 ?_
      show own_Goes _ _ _ _ _ _ _ (T107.setTop (mkF m 76 #[.val (.ref x0), .val (.long x1), .second, .val (.ref x2)] [(.int (own_f7 d)), (.int (0 : Int32)), (.ref x0)]))
      refine own_Goes.step (fun tq kq => XT.ior X107.here hx rfl (hb hby d5_76) rfl kq) ?_
      show own_Goes _ _ _ _ _ _ _ (T107.setTop (mkF m 77 #[.val (.ref x0), .val (.long x1), .second, .val (.ref x2)] [(.int ((0 : Int32) ||| (own_f7 d))), (.ref x0)]))
      obtain ⟨T108, h108, X108, e108, W108, st108⟩ := putF X107 hx hZ hown (host := "") (Or.inl (own_at hw 54 rfl)) Via.refl e107 (v := (.int ((0 : Int32) ||| (own_f7 d)))) f91 f83 (Or.inl (own_at hw 55 rfl)) (own_at hw 1 rfl) (ty := .boolean) (by decide) (own_fit1 (own_orb (by first | exact Or.inl rfl | exact ham) (own_d7 hd))) (own_fit2 (own_orb (by first | exact Or.inl rfl | exact ham) (own_d7 hd))) (g := (mkF m 77 #[.val (.ref x0), .val (.long x1), .second, .val (.ref x2)] [(.int ((0 : Int32) ||| (own_f7 d))), (.ref x0)])) rfl rfl (hb hby d5_77)
      refine own_Goes.step st108 ?_
      have f109 := f83.wr W108
      have f110 := f84.other W108 (Or.inr (slot_ne (Or.inl (own_at hw 11 rfl)) (Or.inl (own_at hw 55 rfl)) (by decide) (t := (.array .long)) (t' := .boolean) (by decide) (by decide)))
      have f111 := f85.other W108 (Or.inr (slot_ne (Or.inl (own_at hw 13 rfl)) (Or.inl (own_at hw 55 rfl)) (by decide) (t := (.array .long)) (t' := .boolean) (by decide) (by decide)))
      have f112 := f86.other W108 (Or.inr (slot_ne (Or.inl (own_at hw 16 rfl)) (Or.inl (own_at hw 55 rfl)) (by decide) (t := (.array .boolean)) (t' := .boolean) (by decide) (by decide)))
      have f113 := f87.other W108 (Or.inr (slot_ne (Or.inl (own_at hw 19 rfl)) (Or.inl (own_at hw 55 rfl)) (by decide) (t := (.array .int)) (t' := .boolean) (by decide) (by decide)))
      have f114 := f88.other W108 (Or.inr (slot_ne (Or.inl (own_at hw 44 rfl)) (Or.inl (own_at hw 55 rfl)) (by decide) (t := .int) (t' := .boolean) (by decide) (by decide)))
      have f115 := f89.other W108 (Or.inr (slot_ne (Or.inl (own_at hw 51 rfl)) (Or.inl (own_at hw 55 rfl)) (by decide) (t := .long) (t' := .boolean) (by decide) (by decide)))
      have f116 := f90.other W108 (Or.inr (slot_ne (Or.inl (own_at hw 53 rfl)) (Or.inl (own_at hw 55 rfl)) (by decide) (t := .boolean) (t' := .boolean) (by decide) (by decide)))
      have f117 := f91.same W108
      have f118 := f92.other W108 (Or.inr (slot_ne (Or.inl (own_at hw 62 rfl)) (Or.inl (own_at hw 55 rfl)) (by decide) (t := (.array .int)) (t' := .boolean) (by decide) (by decide)))
      have f119 := f93.other W108 (Or.inr (slot_ne (Or.inl (own_at hw 69 rfl)) (Or.inl (own_at hw 55 rfl)) (by decide) (t := .int) (t' := .boolean) (by decide) (by decide)))
      have f120 := f94.other W108 (Or.inr (slot_ne (Or.inl (own_at hw 21 rfl)) (Or.inl (own_at hw 55 rfl)) (by decide) (t := .int) (t' := .boolean) (by decide) (by decide)))
      have f121 := f95.other W108 (Ne.symm n1)
      have f122 := f96.other W108 (Ne.symm n2)
      have f123 := f97.other W108 (Ne.symm n3)
      have f124 := f98.other W108 (Ne.symm n4)
      have f125 := f99.other W108 (Ne.symm m1)
      have f126 := f100.wr W108
      have f127 := f101.other W108 (Or.inl x1n)
      have f128 := f102.other W108 (Or.inl x1n)
      have K129 := K103.wr W108 (Or.inl (List.mem_of_getElem? (i := 0) rfl))
      have N130 := Fr.snoc X108 N104 gw0
      have Z131 : n0 ≤ h108.size := Nat.le_trans Z105 (Keep.of_wr W108).1
      show own_Goes _ _ _ _ _ _ _ (T108.setTop (mkF m 80 #[.val (.ref x0), .val (.long x1), .second, .val (.ref x2)] []))
      refine own_Goes.step (fun tq kq => XS.aloadN X108.here hx rfl (hb hby d5_80) rfl rfl kq) ?_
      show own_Goes _ _ _ _ _ _ _ (T108.setTop (mkF m 81 #[.val (.ref x0), .val (.long x1), .second, .val (.ref x2)] [(.ref x0)]))
      obtain ⟨T132, X132, e132, st132⟩ := getF X108 hx hZ hown (host := "") (Or.inl (own_at hw 10 rfl)) Via.refl e108 f110 (g := (mkF m 81 #[.val (.ref x0), .val (.long x1), .second, .val (.ref x2)] [(.ref x0)])) rfl rfl (hb hby d5_81)
      refine own_Goes.step st132 ?_
      show own_Goes _ _ _ _ _ _ _ (T132.setTop (mkF m 84 #[.val (.ref x0), .val (.long x1), .second, .val (.ref x2)] [(.ref kA)]))
      refine own_Goes.step (fun tq kq => XS.aloadN X132.here hx rfl (hb hby d5_84) rfl rfl kq) ?_
      show own_Goes _ _ _ _ _ _ _ (T132.setTop (mkF m 85 #[.val (.ref x0), .val (.long x1), .second, .val (.ref x2)] [(.ref x0), (.ref kA)]))
      obtain ⟨T133, X133, e133, st133⟩ := getF X132 hx hZ hown (host := "") (Or.inl (own_at hw 43 rfl)) Via.refl e132 f114 (g := (mkF m 85 #[.val (.ref x0), .val (.long x1), .second, .val (.ref x2)] [(.ref x0), (.ref kA)])) rfl rfl (hb hby d5_85)
      refine own_Goes.step st133 ?_
      show own_Goes _ _ _ _ _ _ _ (T133.setTop (mkF m 88 #[.val (.ref x0), .val (.long x1), .second, .val (.ref x2)] [(.int (Int32.ofNat cnt)), (.ref kA)]))
      refine own_Goes.step (fun tq kq => XT.lloadN X133.here hx rfl (hb hby d5_88) rfl kq) ?_
      show own_Goes _ _ _ _ _ _ _ (T133.setTop (mkF m 89 #[.val (.ref x0), .val (.long x1), .second, .val (.ref x2)] [(.long x1), (.int (Int32.ofNat cnt)), (.ref kA)]))
      obtain ⟨T134, h134, X134, e134, W134, st134⟩ := own_last X133 hx hZ e133 f121 (i := cnt) (own_toI (by omega)) hc16 (g := (mkF m 89 #[.val (.ref x0), .val (.long x1), .second, .val (.ref x2)] [(.long x1), (.int (Int32.ofNat cnt)), (.ref kA)])) rfl rfl (hb hby d5_89)
      refine own_Goes.step st134 ?_
      have f135 := f109.wr W134
      have f136 := f110.other W134 (Or.inl n1)
      have f137 := f111.other W134 (Or.inl n1)
      have f138 := f112.other W134 (Or.inl n1)
      have f139 := f113.other W134 (Or.inl n1)
      have f140 := f114.other W134 (Or.inl n1)
      have f141 := f115.other W134 (Or.inl n1)
      have f142 := f116.other W134 (Or.inl n1)
      have f143 := f117.other W134 (Or.inl n1)
      have f144 := f118.other W134 (Or.inl n1)
      have f145 := f119.other W134 (Or.inl n1)
      have f146 := f120.other W134 (Or.inl n1)
      have f147 : own_Ar Z h134 kA .long 16 (fun uu => .long ((fun j => if j = cnt then x1 else K j) uu)) := (f121.set W134).congr fun j _ => by dsimp only; exact (apply_ite Value.long _ _ _).symm
      have f148 := f122.other W134 (Ne.symm n5)
      have f149 := f123.other W134 (Ne.symm n6)
      have f150 := f124.other W134 (Ne.symm n7)
      have f151 := f125.other W134 (Ne.symm m2)
      have f152 := f126.wr W134
      have f153 := f127.other W134 (Or.inl x2n)
      have f154 := f128.other W134 (Or.inl x2n)
      have K155 := K129.wr W134 (Or.inl (List.mem_of_getElem? (i := 1) rfl))
      have N156 := Fr.snoc X134 N130 gw1
      have Z157 : n0 ≤ h134.size := Nat.le_trans Z131 (Keep.of_wr W134).1
      show own_Goes _ _ _ _ _ _ _ (T134.setTop (mkF m 90 #[.val (.ref x0), .val (.long x1), .second, .val (.ref x2)] []))
      refine own_Goes.step (fun tq kq => XS.aloadN X134.here hx rfl (hb hby d5_90) rfl rfl kq) ?_
      show own_Goes _ _ _ _ _ _ _ (T134.setTop (mkF m 91 #[.val (.ref x0), .val (.long x1), .second, .val (.ref x2)] [(.ref x0)]))
      obtain ⟨T158, X158, e158, st158⟩ := getF X134 hx hZ hown (host := "") (Or.inl (own_at hw 12 rfl)) Via.refl e134 f137 (g := (mkF m 91 #[.val (.ref x0), .val (.long x1), .second, .val (.ref x2)] [(.ref x0)])) rfl rfl (hb hby d5_91)
      refine own_Goes.step st158 ?_
      show own_Goes _ _ _ _ _ _ _ (T158.setTop (mkF m 94 #[.val (.ref x0), .val (.long x1), .second, .val (.ref x2)] [(.ref sA)]))
      refine own_Goes.step (fun tq kq => XS.aloadN X158.here hx rfl (hb hby d5_94) rfl rfl kq) ?_
      show own_Goes _ _ _ _ _ _ _ (T158.setTop (mkF m 95 #[.val (.ref x0), .val (.long x1), .second, .val (.ref x2)] [(.ref x0), (.ref sA)]))
      obtain ⟨T159, X159, e159, st159⟩ := getF X158 hx hZ hown (host := "") (Or.inl (own_at hw 43 rfl)) Via.refl e158 f140 (g := (mkF m 95 #[.val (.ref x0), .val (.long x1), .second, .val (.ref x2)] [(.ref x0), (.ref sA)])) rfl rfl (hb hby d5_95)
      refine own_Goes.step st159 ?_
      show own_Goes _ _ _ _ _ _ _ (T159.setTop (mkF m 98 #[.val (.ref x0), .val (.long x1), .second, .val (.ref x2)] [(.int (Int32.ofNat cnt)), (.ref sA)]))
      refine own_Goes.step (fun tq kq => XS.aloadN X159.here hx rfl (hb hby d5_98) rfl rfl kq) ?_
      show own_Goes _ _ _ _ _ _ _ (T159.setTop (mkF m 99 #[.val (.ref x0), .val (.long x1), .second, .val (.ref x2)] [(.ref x2), (.int (Int32.ofNat cnt)), (.ref sA)]))
      obtain ⟨w160, T160, L160, q160, Y160, st160⟩ := own_virt X159 hx hZ e159 f152 hown (own_at hw 45 rfl) (own_at hw 46 rfl) (own_at hw 48 rfl) (own_at hw 47 rfl) (own_at hw 24 rfl) (own_at hw 49 rfl) (by decide) (own_m6 l Z a0 hw [] x2 z h134 f153 ) (by decide) (W := 2) (by decide) (by decide) (by decide) (g := (mkF m 99 #[.val (.ref x0), .val (.long x1), .second, .val (.ref x2)] [(.ref x2), (.int (Int32.ofNat cnt)), (.ref sA)])) rfl (by rw [hml]; rfl) (argsL := []) (rest := [(.int (Int32.ofNat cnt)), (.ref sA)]) (lenOf pd_6 rfl) rfl (by show 2 * 0 + _ ≤ _; exact Nat.le_of_eq rfl) (hb hby d5_99)
      obtain ⟨e160, X160⟩ := own_clean q160 Y160 rfl rfl
      obtain ⟨rfl, -, -⟩ := q160
      refine own_Goes.step st160 ?_
      show own_Goes _ _ _ _ _ _ _ (T160.setTop (mkF m 102 #[.val (.ref x0), .val (.long x1), .second, .val (.ref x2)] [(.long (own_f6 z)), (.int (Int32.ofNat cnt)), (.ref sA)]))
      obtain ⟨T161, h161, X161, e161, W161, st161⟩ := own_last X160 hx hZ e160 f148 (i := cnt) (own_toI (by omega)) hc16 (g := (mkF m 102 #[.val (.ref x0), .val (.long x1), .second, .val (.ref x2)] [(.long (own_f6 z)), (.int (Int32.ofNat cnt)), (.ref sA)])) rfl rfl (hb hby d5_102)
      refine own_Goes.step st161 ?_
      have f162 := f135.wr W161
      have f163 := f136.other W161 (Or.inl n2)
      have f164 := f137.other W161 (Or.inl n2)
      have f165 := f138.other W161 (Or.inl n2)
      have f166 := f139.other W161 (Or.inl n2)
      have f167 := f140.other W161 (Or.inl n2)
      have f168 := f141.other W161 (Or.inl n2)
      have f169 := f142.other W161 (Or.inl n2)
      have f170 := f143.other W161 (Or.inl n2)
      have f171 := f144.other W161 (Or.inl n2)
      have f172 := f145.other W161 (Or.inl n2)
      have f173 := f146.other W161 (Or.inl n2)
      have f174 := f147.other W161 n5
      have f175 : own_Ar Z h161 sA .long 16 (fun uu => .long ((fun j => if j = cnt then (own_f6 z) else Sz j) uu)) := (f148.set W161).congr fun j _ => by dsimp only; exact (apply_ite Value.long _ _ _).symm
      have f176 := f149.other W161 (Ne.symm n8)
      have f177 := f150.other W161 (Ne.symm n9)
      have f178 := f151.other W161 (Ne.symm m3)
      have f179 := f152.wr W161
      have f180 := f153.other W161 (Or.inl x3n)
      have f181 := f154.other W161 (Or.inl x3n)
      have K182 := K155.wr W161 (Or.inl (List.mem_of_getElem? (i := 2) rfl))
      have N183 := Fr.snoc X161 N156 gw2
      have Z184 : n0 ≤ h161.size := Nat.le_trans Z157 (Keep.of_wr W161).1
      show own_Goes _ _ _ _ _ _ _ (T161.setTop (mkF m 103 #[.val (.ref x0), .val (.long x1), .second, .val (.ref x2)] []))
      refine own_Goes.step (fun tq kq => XS.aloadN X161.here hx rfl (hb hby d5_103) rfl rfl kq) ?_
      show own_Goes _ _ _ _ _ _ _ (T161.setTop (mkF m 104 #[.val (.ref x0), .val (.long x1), .second, .val (.ref x2)] [(.ref x0)]))
      obtain ⟨T185, X185, e185, st185⟩ := getF X161 hx hZ hown (host := "") (Or.inl (own_at hw 15 rfl)) Via.refl e161 f165 (g := (mkF m 104 #[.val (.ref x0), .val (.long x1), .second, .val (.ref x2)] [(.ref x0)])) rfl rfl (hb hby d5_104)
      refine own_Goes.step st185 ?_
      show own_Goes _ _ _ _ _ _ _ (T185.setTop (mkF m 107 #[.val (.ref x0), .val (.long x1), .second, .val (.ref x2)] [(.ref dA)]))
      refine own_Goes.step (fun tq kq => XS.aloadN X185.here hx rfl (hb hby d5_107) rfl rfl kq) ?_
      show own_Goes _ _ _ _ _ _ _ (T185.setTop (mkF m 108 #[.val (.ref x0), .val (.long x1), .second, .val (.ref x2)] [(.ref x0), (.ref dA)]))
      obtain ⟨T186, X186, e186, st186⟩ := getF X185 hx hZ hown (host := "") (Or.inl (own_at hw 43 rfl)) Via.refl e185 f167 (g := (mkF m 108 #[.val (.ref x0), .val (.long x1), .second, .val (.ref x2)] [(.ref x0), (.ref dA)])) rfl rfl (hb hby d5_108)
      refine own_Goes.step st186 ?_
      show own_Goes _ _ _ _ _ _ _ (T186.setTop (mkF m 111 #[.val (.ref x0), .val (.long x1), .second, .val (.ref x2)] [(.int (Int32.ofNat cnt)), (.ref dA)]))
      refine own_Goes.step (fun tq kq => XS.aloadN X186.here hx rfl (hb hby d5_111) rfl rfl kq) ?_
      show own_Goes _ _ _ _ _ _ _ (T186.setTop (mkF m 112 #[.val (.ref x0), .val (.long x1), .second, .val (.ref x2)] [(.ref x2), (.int (Int32.ofNat cnt)), (.ref dA)]))
      obtain ⟨w187, T187, L187, q187, Y187, st187⟩ := own_virt X186 hx hZ e186 f179 hown (own_at hw 56 rfl) (own_at hw 57 rfl) (own_at hw 59 rfl) (own_at hw 58 rfl) (own_at hw 24 rfl) (own_at hw 60 rfl) (by decide) (own_m7 l Z a0 hw [] x2 d h161 f181 ) (by decide) (W := 2) (by decide) (by decide) (by decide) (g := (mkF m 112 #[.val (.ref x0), .val (.long x1), .second, .val (.ref x2)] [(.ref x2), (.int (Int32.ofNat cnt)), (.ref dA)])) rfl (by rw [hml]; rfl) (argsL := []) (rest := [(.int (Int32.ofNat cnt)), (.ref dA)]) (lenOf pd_7 rfl) rfl (by show 2 * 0 + _ ≤ _; exact Nat.le_of_eq rfl) (hb hby d5_112)
      obtain ⟨e187, X187⟩ := own_clean q187 Y187 rfl rfl
      obtain ⟨rfl, -, -⟩ := q187
      refine own_Goes.step st187 ?_
      show own_Goes _ _ _ _ _ _ _ (T187.setTop (mkF m 115 #[.val (.ref x0), .val (.long x1), .second, .val (.ref x2)] [(.int (own_f7 d)), (.int (Int32.ofNat cnt)), (.ref dA)]))
      obtain ⟨T188, h188, X188, e188, W188, st188⟩ := own_zast X187 hx hZ e187 f176 (i := cnt) (own_toI (by omega)) hc16 (g := (mkF m 115 #[.val (.ref x0), .val (.long x1), .second, .val (.ref x2)] [(.int (own_f7 d)), (.int (Int32.ofNat cnt)), (.ref dA)])) rfl rfl (hb hby d5_115)
      refine own_Goes.step st188 ?_
      have f189 := f162.wr W188
      have f190 := f163.other W188 (Or.inl n3)
      have f191 := f164.other W188 (Or.inl n3)
      have f192 := f165.other W188 (Or.inl n3)
      have f193 := f166.other W188 (Or.inl n3)
      have f194 := f167.other W188 (Or.inl n3)
      have f195 := f168.other W188 (Or.inl n3)
      have f196 := f169.other W188 (Or.inl n3)
      have f197 := f170.other W188 (Or.inl n3)
      have f198 := f171.other W188 (Or.inl n3)
      have f199 := f172.other W188 (Or.inl n3)
      have f200 := f173.other W188 (Or.inl n3)
      have f201 := f174.other W188 n6
      have f202 := f175.other W188 n8
      have f203 : own_Ar Z h188 dA .boolean 16 (fun uu => .int ((fun j => if j = cnt then (nar .boolean (own_f7 d)) else D j) uu)) := (f176.set W188).congr fun j _ => by dsimp only; exact (apply_ite Value.int _ _ _).symm
      have f204 := f177.other W188 (Ne.symm n10)
      have f205 := f178.other W188 (Ne.symm m4)
      have f206 := f179.wr W188
      have f207 := f180.other W188 (Or.inl x4n)
      have f208 := f181.other W188 (Or.inl x4n)
      have K209 := K182.wr W188 (Or.inl (List.mem_of_getElem? (i := 3) rfl))
      have N210 := Fr.snoc X188 N183 gw3
      have Z211 : n0 ≤ h188.size := Nat.le_trans Z184 (Keep.of_wr W188).1
      show own_Goes _ _ _ _ _ _ _ (T188.setTop (mkF m 116 #[.val (.ref x0), .val (.long x1), .second, .val (.ref x2)] []))
      refine own_Goes.step (fun tq kq => XS.aloadN X188.here hx rfl (hb hby d5_116) rfl rfl kq) ?_
      show own_Goes _ _ _ _ _ _ _ (T188.setTop (mkF m 117 #[.val (.ref x0), .val (.long x1), .second, .val (.ref x2)] [(.ref x0)]))
      refine own_Goes.step (fun tq kq => XS.dup X188.here hx rfl (hb hby d5_117) rfl rfl kq) ?_
      show own_Goes _ _ _ _ _ _ _ (T188.setTop (mkF m 118 #[.val (.ref x0), .val (.long x1), .second, .val (.ref x2)] [(.ref x0), (.ref x0)]))
      obtain ⟨T212, X212, e212, st212⟩ := getF X188 hx hZ hown (host := "") (Or.inl (own_at hw 43 rfl)) Via.refl e188 f194 (g := (mkF m 118 #[.val (.ref x0), .val (.long x1), .second, .val (.ref x2)] [(.ref x0), (.ref x0)])) rfl rfl (hb hby d5_118)
      refine own_Goes.step st212 ?_
      show own_Goes _ _ _ _ _ _ _ (T212.setTop (mkF m 121 #[.val (.ref x0), .val (.long x1), .second, .val (.ref x2)] [(.int (Int32.ofNat cnt)), (.ref x0)]))
      refine own_Goes.step (fun tq kq => XT.iconstV X212.here hx rfl (1 : Int32) (hb hby d5_121) (by decide) kq) ?_
      show own_Goes _ _ _ _ _ _ _ (T212.setTop (mkF m 122 #[.val (.ref x0), .val (.long x1), .second, .val (.ref x2)] [(.int (1 : Int32)), (.int (Int32.ofNat cnt)), (.ref x0)]))
      refine own_Goes.step (fun tq kq => XS.iadd X212.here hx rfl (hb hby d5_122) rfl kq) ?_
      show own_Goes _ _ _ _ _ _ _ (T212.setTop (mkF m 123 #[.val (.ref x0), .val (.long x1), .second, .val (.ref x2)] [(.int ((Int32.ofNat cnt) + (1 : Int32))), (.ref x0)]))
      obtain ⟨T213, h213, X213, e213, W213, st213⟩ := putF X212 hx hZ hown (host := "") (Or.inl (own_at hw 43 rfl)) Via.refl e212 (v := (.int ((Int32.ofNat cnt) + (1 : Int32)))) f194 f189 (Or.inl (own_at hw 44 rfl)) (own_at hw 1 rfl) (ty := .int) (by decide) rfl rfl (g := (mkF m 123 #[.val (.ref x0), .val (.long x1), .second, .val (.ref x2)] [(.int ((Int32.ofNat cnt) + (1 : Int32))), (.ref x0)])) rfl rfl (hb hby d5_123)
      refine own_Goes.step st213 ?_
      have f214 := f189.wr W213
      have f215 := f190.other W213 (Or.inr (slot_ne (Or.inl (own_at hw 11 rfl)) (Or.inl (own_at hw 44 rfl)) (by decide) (t := (.array .long)) (t' := .int) (by decide) (by decide)))
      have f216 := f191.other W213 (Or.inr (slot_ne (Or.inl (own_at hw 13 rfl)) (Or.inl (own_at hw 44 rfl)) (by decide) (t := (.array .long)) (t' := .int) (by decide) (by decide)))
      have f217 := f192.other W213 (Or.inr (slot_ne (Or.inl (own_at hw 16 rfl)) (Or.inl (own_at hw 44 rfl)) (by decide) (t := (.array .boolean)) (t' := .int) (by decide) (by decide)))
      have f218 := f193.other W213 (Or.inr (slot_ne (Or.inl (own_at hw 19 rfl)) (Or.inl (own_at hw 44 rfl)) (by decide) (t := (.array .int)) (t' := .int) (by decide) (by decide)))
      have f219 := f194.same W213
      have f220 := f195.other W213 (Or.inr (slot_ne (Or.inl (own_at hw 51 rfl)) (Or.inl (own_at hw 44 rfl)) (by decide) (t := .long) (t' := .int) (by decide) (by decide)))
      have f221 := f196.other W213 (Or.inr (slot_ne (Or.inl (own_at hw 53 rfl)) (Or.inl (own_at hw 44 rfl)) (by decide) (t := .boolean) (t' := .int) (by decide) (by decide)))
      have f222 := f197.other W213 (Or.inr (slot_ne (Or.inl (own_at hw 55 rfl)) (Or.inl (own_at hw 44 rfl)) (by decide) (t := .boolean) (t' := .int) (by decide) (by decide)))
      have f223 := f198.other W213 (Or.inr (slot_ne (Or.inl (own_at hw 62 rfl)) (Or.inl (own_at hw 44 rfl)) (by decide) (t := (.array .int)) (t' := .int) (by decide) (by decide)))
      have f224 := f199.other W213 (Or.inr (slot_ne (Or.inl (own_at hw 69 rfl)) (Or.inl (own_at hw 44 rfl)) (by decide) (t := .int) (t' := .int) (by decide) (by decide)))
      have f225 := f200.other W213 (Or.inr (slot_ne (Or.inl (own_at hw 21 rfl)) (Or.inl (own_at hw 44 rfl)) (by decide) (t := .int) (t' := .int) (by decide) (by decide)))
      have f226 := f201.other W213 (Ne.symm n1)
      have f227 := f202.other W213 (Ne.symm n2)
      have f228 := f203.other W213 (Ne.symm n3)
      have f229 := f204.other W213 (Ne.symm n4)
      have f230 := f205.other W213 (Ne.symm m1)
      have f231 := f206.wr W213
      have f232 := f207.other W213 (Or.inl x1n)
      have f233 := f208.other W213 (Or.inl x1n)
      have K234 := K209.wr W213 (Or.inl (List.mem_of_getElem? (i := 0) rfl))
      have N235 := Fr.snoc X213 N210 gw0
      have Z236 : n0 ≤ h213.size := Nat.le_trans Z211 (Keep.of_wr W213).1
      show own_Goes _ _ _ _ _ _ _ (T213.setTop (mkF m 126 #[.val (.ref x0), .val (.long x1), .second, .val (.ref x2)] []))
      refine own_Goes.step (fun tq kq => XS.aloadN X213.here hx rfl (hb hby d5_126) rfl rfl kq) ?_
      show own_Goes _ _ _ _ _ _ _ (T213.setTop (mkF m 127 #[.val (.ref x0), .val (.long x1), .second, .val (.ref x2)] [(.ref x0)]))
      obtain ⟨T237, X237, e237, st237⟩ := getF X213 hx hZ hown (host := "") (Or.inl (own_at hw 61 rfl)) Via.refl e213 f223 (g := (mkF m 127 #[.val (.ref x0), .val (.long x1), .second, .val (.ref x2)] [(.ref x0)])) rfl rfl (hb hby d5_127)
      refine own_Goes.step st237 ?_
      show own_Goes _ _ _ _ _ _ _ (T237.setTop (mkF m 130 #[.val (.ref x0), .val (.long x1), .second, .val (.ref x2)] [(.ref iA)]))
      refine own_Goes.step (fun tq kq => XS.ifnullNo X237.here hx rfl (hb hby d5_130) rfl kq) ?_
      show own_Goes _ _ _ _ _ _ _ (T237.setTop (mkF m 133 #[.val (.ref x0), .val (.long x1), .second, .val (.ref x2)] []))
      refine own_Goes.step (fun tq kq => XS.aloadN X237.here hx rfl (hb hby d5_133) rfl rfl kq) ?_
      show own_Goes _ _ _ _ _ _ _ (T237.setTop (mkF m 134 #[.val (.ref x0), .val (.long x1), .second, .val (.ref x2)] [(.ref x0)]))
      refine own_Goes.step (fun tq kq => XS.aloadN X237.here hx rfl (hb hby d5_134) rfl rfl kq) ?_
      show own_Goes _ _ _ _ _ _ _ (T237.setTop (mkF m 135 #[.val (.ref x0), .val (.long x1), .second, .val (.ref x2)] [(.ref x0), (.ref x0)]))
      obtain ⟨T239, X239, e239, st239⟩ := getF X237 hx hZ hown (host := "") (Or.inl (own_at hw 43 rfl)) Via.refl e237 f219 (g := (mkF m 135 #[.val (.ref x0), .val (.long x1), .second, .val (.ref x2)] [(.ref x0), (.ref x0)])) rfl rfl (hb hby d5_135)
      refine own_Goes.step st239 ?_
      show own_Goes _ _ _ _ _ _ _ (T239.setTop (mkF m 138 #[.val (.ref x0), .val (.long x1), .second, .val (.ref x2)] [(.int ((Int32.ofNat cnt) + (1 : Int32))), (.ref x0)]))
      refine own_Goes.step (fun tq kq => XT.iconstV X239.here hx rfl (1 : Int32) (hb hby d5_138) (by decide) kq) ?_
      show own_Goes _ _ _ _ _ _ _ (T239.setTop (mkF m 139 #[.val (.ref x0), .val (.long x1), .second, .val (.ref x2)] [(.int (1 : Int32)), (.int ((Int32.ofNat cnt) + (1 : Int32))), (.ref x0)]))
      refine own_Goes.step (fun tq kq => XS.isub X239.here hx rfl (hb hby d5_139) rfl kq) ?_
      show own_Goes _ _ _ _ _ _ _ (T239.setTop (mkF m 140 #[.val (.ref x0), .val (.long x1), .second, .val (.ref x2)] [(.int (((Int32.ofNat cnt) + (1 : Int32)) - (1 : Int32))), (.ref x0)]))
      obtain ⟨w240, T240, L240, q240, Y240, st240⟩ := own_priv X239 hx hZ e239 f214 hown (own_at hw 94 rfl) (own_at hw 96 rfl) (own_at hw 1 rfl) (own_at hw 95 rfl) (own_at hw 2 rfl) (own_at hw 97 rfl) (by decide) (own_m14 l Z a0 hw [] x0 (((Int32.ofNat cnt) + (1 : Int32)) - (1 : Int32)) kA sA dA pA (own_setJ K cnt x1) (own_setJ Sz cnt z) (own_set D cnt (nar .boolean (own_f7 d))) (cnt + 1) (own_f6 z) ((0 : Int32) ||| (0 : Int32)) ((0 : Int32) ||| (own_f7 d)) la ix iA S cnt tt n0 h213 ⟨f214, f215, f216, f217, f218, (own_cnt cnt ▸ f219), f220, f221, f222, f223, f224, f225, f226, f227, f228, f229, n1, n2, n3, n4, n5, n6, n7, n8, n9, n10, gw0, gw1, gw2, gw3, (Or.inl rfl), (own_orb (by first | exact Or.inl rfl | exact ham) (own_d7 hd))⟩ ⟨f230, m1, m2, m3, m4, m5, gi⟩ hS (by rw [own_cnt, own_cntp, own_toI (by omega)]) hc16 (by rw [show own_setJ K cnt x1 cnt = x1 from if_pos rfl]; exact hm) htt hix) (by decide) (W := 0) (by decide) (by decide) (by decide) (g := (mkF m 140 #[.val (.ref x0), .val (.long x1), .second, .val (.ref x2)] [(.int (((Int32.ofNat cnt) + (1 : Int32)) - (1 : Int32))), (.ref x0)])) rfl (by rw [hml]; rfl) (argsL := [(.int (((Int32.ofNat cnt) + (1 : Int32)) - (1 : Int32)))]) (rest := []) (lenOf pd_14 rfl) rfl (by show 2 * 0 + _ ≤ _; exact Nat.le_of_eq rfl) (hb hby d5_140)
      obtain ⟨rfl, N240, K240, hif⟩ := q240
      have Nn240 := Fr.app N235 N240
      have Kn240 := K234.trans K240 own_kt5
      refine own_Goes.step st240 ?_
      show own_Goes _ _ _ _ _ _ _ (T240.setTop (mkF m 143 #[.val (.ref x0), .val (.long x1), .second, .val (.ref x2)] []))
      refine own_endV Y240 hx Bd.notSynchronized Bd.returns (hb hby d5_143) ?_ (by decide) (by decide)
      show own_F5s Z x0 x1 x2 kA sA dA pA K Sz D cnt fs mx am la ix z d iA S tt n0 h0 _ T240.heap _
      refine ⟨rfl, Nn240, Kn240, (own_f6 z), ((0 : Int32) ||| (0 : Int32)), ((0 : Int32) ||| (own_f7 d)), fun _ => ⟨rfl, rfl, by rw [own_d7e hd]; exact own_or0 d⟩, ?_⟩
      exact hif
    · refine own_Goes.step (fun tq kq => XS.ifYes X4.here hx rfl (pc0 := 20) (pc' := 41) rfl (hb hby d5_20) rfl (XT.i0_ne_t hc5) (by decide) (by decide) kq) ?_
      show own_Goes _ _ _ _ _ _ _ (T4.setTop (mkF m 41 #[.val (.ref x0), .val (.long x1), .second, .val (.ref x2)] []))
      refine own_Goes.step (fun tq kq => XS.aloadN X4.here hx rfl (hb hby d5_41) rfl rfl kq) ?_
      show own_Goes _ _ _ _ _ _ _ (T4.setTop (mkF m 42 #[.val (.ref x0), .val (.long x1), .second, .val (.ref x2)] [(.ref x0)]))
      refine own_Goes.step (fun tq kq => XS.dup X4.here hx rfl (hb hby d5_42) rfl rfl kq) ?_
      show own_Goes _ _ _ _ _ _ _ (T4.setTop (mkF m 43 #[.val (.ref x0), .val (.long x1), .second, .val (.ref x2)] [(.ref x0), (.ref x0)]))
      obtain ⟨T241, X241, e241, st241⟩ := getF X4 hx hZ hown (host := "") (Or.inl (own_at hw 52 rfl)) Via.refl e4 P6 (g := (mkF m 43 #[.val (.ref x0), .val (.long x1), .second, .val (.ref x2)] [(.ref x0), (.ref x0)])) rfl rfl (hb hby d5_43)
      refine own_Goes.step st241 ?_
      show own_Goes _ _ _ _ _ _ _ (T241.setTop (mkF m 46 #[.val (.ref x0), .val (.long x1), .second, .val (.ref x2)] [(.int mx), (.ref x0)]))
      refine own_Goes.step (fun tq kq => XS.aloadN X241.here hx rfl (hb hby d5_46) rfl rfl kq) ?_
      show own_Goes _ _ _ _ _ _ _ (T241.setTop (mkF m 47 #[.val (.ref x0), .val (.long x1), .second, .val (.ref x2)] [(.ref x2), (.int mx), (.ref x0)]))
      obtain ⟨w242, T242, L242, q242, Y242, st242⟩ := own_virt X241 hx hZ e241 EE hown (own_at hw 45 rfl) (own_at hw 46 rfl) (own_at hw 48 rfl) (own_at hw 47 rfl) (own_at hw 24 rfl) (own_at hw 49 rfl) (by decide) (own_m6 l Z a0 hw [] x2 z h0 PE0 ) (by decide) (W := 2) (by decide) (by decide) (by decide) (g := (mkF m 47 #[.val (.ref x0), .val (.long x1), .second, .val (.ref x2)] [(.ref x2), (.int mx), (.ref x0)])) rfl (by rw [hml]; rfl) (argsL := []) (rest := [(.int mx), (.ref x0)]) (lenOf pd_6 rfl) rfl (by show 2 * 0 + _ ≤ _; exact Nat.le_of_eq rfl) (hb hby d5_47)
      obtain ⟨e242, X242⟩ := own_clean q242 Y242 rfl rfl
      obtain ⟨rfl, -, -⟩ := q242
      refine own_Goes.step st242 ?_
      show own_Goes _ _ _ _ _ _ _ (T242.setTop (mkF m 50 #[.val (.ref x0), .val (.long x1), .second, .val (.ref x2)] [(.long (own_f6 z)), (.int mx), (.ref x0)]))
      refine own_Goes.step (fun tq kq => XS.aloadN X242.here hx rfl (hb hby d5_50) rfl rfl kq) ?_
      show own_Goes _ _ _ _ _ _ _ (T242.setTop (mkF m 51 #[.val (.ref x0), .val (.long x1), .second, .val (.ref x2)] [(.ref x0), (.long (own_f6 z)), (.int mx), (.ref x0)]))
      obtain ⟨T243, X243, e243, st243⟩ := getF X242 hx hZ hown (host := "") (Or.inl (own_at hw 50 rfl)) Via.refl e242 P5 (g := (mkF m 51 #[.val (.ref x0), .val (.long x1), .second, .val (.ref x2)] [(.ref x0), (.long (own_f6 z)), (.int mx), (.ref x0)])) rfl rfl (hb hby d5_51)
      refine own_Goes.step st243 ?_
      show own_Goes _ _ _ _ _ _ _ (T243.setTop (mkF m 54 #[.val (.ref x0), .val (.long x1), .second, .val (.ref x2)] [(.long fs), (.long (own_f6 z)), (.int mx), (.ref x0)]))
      refine own_Goes.step (fun tq kq => XT.lcmp X243.here hx rfl (hb hby d5_54) rfl kq) ?_
      show own_Goes _ _ _ _ _ _ _ (T243.setTop (mkF m 55 #[.val (.ref x0), .val (.long x1), .second, .val (.ref x2)] [(.int (XT.cmpL (own_f6 z) fs)), (.int mx), (.ref x0)]))
      have J404 : own_Goes p e below s (own_F5s Z x0 x1 x2 kA sA dA pA K Sz D cnt fs mx am la ix z d iA S tt n0 h0) 0 0 (T243.setTop (mkF m 63 #[.val (.ref x0), .val (.long x1), .second, .val (.ref x2)] [(.int (own_f5s_1 z fs)), (.int mx), (.ref x0)])) := by
        refine own_Goes.step (fun tq kq => XT.ior X243.here hx rfl (hb hby d5_63) rfl kq) ?_
        show own_Goes _ _ _ _ _ _ _ (T243.setTop (mkF m 64 #[.val (.ref x0), .val (.long x1), .second, .val (.ref x2)] [(.int (mx ||| (own_f5s_1 z fs))), (.ref x0)]))
        obtain ⟨T245, h245, X245, e245, W245, st245⟩ := putF X243 hx hZ hown (host := "") (Or.inl (own_at hw 52 rfl)) Via.refl e243 (v := (.int (mx ||| (own_f5s_1 z fs)))) P6 E0 (Or.inl (own_at hw 53 rfl)) (own_at hw 1 rfl) (ty := .boolean) (by decide) (own_fit1 (own_orb (by first | exact Or.inl rfl | exact hmx) (by unfold own_f5s_1; split <;> first | exact Or.inl rfl | exact Or.inr rfl))) (own_fit2 (own_orb (by first | exact Or.inl rfl | exact hmx) (by unfold own_f5s_1; split <;> first | exact Or.inl rfl | exact Or.inr rfl))) (g := (mkF m 64 #[.val (.ref x0), .val (.long x1), .second, .val (.ref x2)] [(.int (mx ||| (own_f5s_1 z fs))), (.ref x0)])) rfl rfl (hb hby d5_64)
        refine own_Goes.step st245 ?_
        have f246 := E0.wr W245
        have f247 := P0.other W245 (Or.inr (slot_ne (Or.inl (own_at hw 11 rfl)) (Or.inl (own_at hw 53 rfl)) (by decide) (t := (.array .long)) (t' := .boolean) (by decide) (by decide)))
        have f248 := P1.other W245 (Or.inr (slot_ne (Or.inl (own_at hw 13 rfl)) (Or.inl (own_at hw 53 rfl)) (by decide) (t := (.array .long)) (t' := .boolean) (by decide) (by decide)))
        have f249 := P2.other W245 (Or.inr (slot_ne (Or.inl (own_at hw 16 rfl)) (Or.inl (own_at hw 53 rfl)) (by decide) (t := (.array .boolean)) (t' := .boolean) (by decide) (by decide)))
        have f250 := P3.other W245 (Or.inr (slot_ne (Or.inl (own_at hw 19 rfl)) (Or.inl (own_at hw 53 rfl)) (by decide) (t := (.array .int)) (t' := .boolean) (by decide) (by decide)))
        have f251 := P4.other W245 (Or.inr (slot_ne (Or.inl (own_at hw 44 rfl)) (Or.inl (own_at hw 53 rfl)) (by decide) (t := .int) (t' := .boolean) (by decide) (by decide)))
        have f252 := P5.other W245 (Or.inr (slot_ne (Or.inl (own_at hw 51 rfl)) (Or.inl (own_at hw 53 rfl)) (by decide) (t := .long) (t' := .boolean) (by decide) (by decide)))
        have f253 := P6.same W245
        have f254 := P7.other W245 (Or.inr (slot_ne (Or.inl (own_at hw 55 rfl)) (Or.inl (own_at hw 53 rfl)) (by decide) (t := .boolean) (t' := .boolean) (by decide) (by decide)))
        have f255 := P8.other W245 (Or.inr (slot_ne (Or.inl (own_at hw 62 rfl)) (Or.inl (own_at hw 53 rfl)) (by decide) (t := (.array .int)) (t' := .boolean) (by decide) (by decide)))
        have f256 := P9.other W245 (Or.inr (slot_ne (Or.inl (own_at hw 69 rfl)) (Or.inl (own_at hw 53 rfl)) (by decide) (t := .int) (t' := .boolean) (by decide) (by decide)))
        have f257 := P10.other W245 (Or.inr (slot_ne (Or.inl (own_at hw 21 rfl)) (Or.inl (own_at hw 53 rfl)) (by decide) (t := .int) (t' := .boolean) (by decide) (by decide)))
        have f258 := R0.other W245 (Ne.symm n1)
        have f259 := R1.other W245 (Ne.symm n2)
        have f260 := R2.other W245 (Ne.symm n3)
        have f261 := R3.other W245 (Ne.symm n4)
        have f262 := RI.other W245 (Ne.symm m1)
        have f263 := EE.wr W245
        have f264 := PE0.other W245 (Or.inl x1n)
        have f265 := PE1.other W245 (Or.inl x1n)
        have K266 := K0.wr W245 (Or.inl (List.mem_of_getElem? (i := 0) rfl))
        have N267 := Fr.snoc X245 N0 gw0
        have Z268 : n0 ≤ h245.size := Nat.le_trans Z0 (Keep.of_wr W245).1
        show own_Goes _ _ _ _ _ _ _ (T245.setTop (mkF m 67 #[.val (.ref x0), .val (.long x1), .second, .val (.ref x2)] []))
        refine own_Goes.step (fun tq kq => XS.aloadN X245.here hx rfl (hb hby d5_67) rfl rfl kq) ?_
        show own_Goes _ _ _ _ _ _ _ (T245.setTop (mkF m 68 #[.val (.ref x0), .val (.long x1), .second, .val (.ref x2)] [(.ref x0)]))
        refine own_Goes.step (fun tq kq => XS.dup X245.here hx rfl (hb hby d5_68) rfl rfl kq) ?_
        show own_Goes _ _ _ _ _ _ _ (T245.setTop (mkF m 69 #[.val (.ref x0), .val (.long x1), .second, .val (.ref x2)] [(.ref x0), (.ref x0)]))
        obtain ⟨T269, X269, e269, st269⟩ := getF X245 hx hZ hown (host := "") (Or.inl (own_at hw 54 rfl)) Via.refl e245 f254 (g := (mkF m 69 #[.val (.ref x0), .val (.long x1), .second, .val (.ref x2)] [(.ref x0), (.ref x0)])) rfl rfl (hb hby d5_69)
        refine own_Goes.step st269 ?_
        show own_Goes _ _ _ _ _ _ _ (T269.setTop (mkF m 72 #[.val (.ref x0), .val (.long x1), .second, .val (.ref x2)] [(.int am), (.ref x0)]))
        refine own_Goes.step (fun tq kq => XS.aloadN X269.here hx rfl (hb hby d5_72) rfl rfl kq) ?_
        show own_Goes _ _ _ _ _ _ _ (T269.setTop (mkF m 73 #[.val (.ref x0), .val (.long x1), .second, .val (.ref x2)] [(.ref x2), (.int am), (.ref x0)]))
        obtain ⟨w270, T270, L270, q270, Y270, st270⟩ := own_virt X269 hx hZ e269 f263 hown (own_at hw 56 rfl) (own_at hw 57 rfl) (own_at hw 59 rfl) (own_at hw 58 rfl) (own_at hw 24 rfl) (own_at hw 60 rfl) (by decide) (own_m7 l Z a0 hw [] x2 d h245 f265 ) (by decide) (W := 2) (by decide) (by decide) (by decide) (g := (mkF m 73 #[.val (.ref x0), .val (.long x1), .second, .val (.ref x2)] [(.ref x2), (.int am), (.ref x0)])) rfl (by rw [hml]; rfl) (argsL := []) (rest := [(.int am), (.ref x0)]) (lenOf pd_7 rfl) rfl (by show 2 * 0 + _ ≤ _; exact Nat.le_of_eq rfl) (hb hby d5_73)
        obtain ⟨e270, X270⟩ := own_clean q270 Y270 rfl rfl
        obtain ⟨rfl, -, -⟩ := q270
        refine own_Goes.step st270 ?_
        show own_Goes _ _ _ _ _ _ _ (T270.setTop (mkF m 76 #[.val (.ref x0), .val (.long x1), .second, .val (.ref x2)] [(.int (own_f7 d)), (.int am), (.ref x0)]))
        refine own_Goes.step (fun tq kq => XT.ior X270.here hx rfl (hb hby d5_76) rfl kq) ?_
        show own_Goes _ _ _ _ _ _ _ (T270.setTop (mkF m 77 #[.val (.ref x0), .val (.long x1), .second, .val (.ref x2)] [(.int (am ||| (own_f7 d))), (.ref x0)]))
        obtain ⟨T271, h271, X271, e271, W271, st271⟩ := putF X270 hx hZ hown (host := "") (Or.inl (own_at hw 54 rfl)) Via.refl e270 (v := (.int (am ||| (own_f7 d)))) f254 f246 (Or.inl (own_at hw 55 rfl)) (own_at hw 1 rfl) (ty := .boolean) (by decide) (own_fit1 (own_orb (by first | exact Or.inl rfl | exact ham) (own_d7 hd))) (own_fit2 (own_orb (by first | exact Or.inl rfl | exact ham) (own_d7 hd))) (g := (mkF m 77 #[.val (.ref x0), .val (.long x1), .second, .val (.ref x2)] [(.int (am ||| (own_f7 d))), (.ref x0)])) rfl rfl (hb hby d5_77)
        refine own_Goes.step st271 ?_
        have f272 := f246.wr W271
        have f273 := f247.other W271 (Or.inr (slot_ne (Or.inl (own_at hw 11 rfl)) (Or.inl (own_at hw 55 rfl)) (by decide) (t := (.array .long)) (t' := .boolean) (by decide) (by decide)))
        have f274 := f248.other W271 (Or.inr (slot_ne (Or.inl (own_at hw 13 rfl)) (Or.inl (own_at hw 55 rfl)) (by decide) (t := (.array .long)) (t' := .boolean) (by decide) (by decide)))
        have f275 := f249.other W271 (Or.inr (slot_ne (Or.inl (own_at hw 16 rfl)) (Or.inl (own_at hw 55 rfl)) (by decide) (t := (.array .boolean)) (t' := .boolean) (by decide) (by decide)))
        have f276 := f250.other W271 (Or.inr (slot_ne (Or.inl (own_at hw 19 rfl)) (Or.inl (own_at hw 55 rfl)) (by decide) (t := (.array .int)) (t' := .boolean) (by decide) (by decide)))
        have f277 := f251.other W271 (Or.inr (slot_ne (Or.inl (own_at hw 44 rfl)) (Or.inl (own_at hw 55 rfl)) (by decide) (t := .int) (t' := .boolean) (by decide) (by decide)))
        have f278 := f252.other W271 (Or.inr (slot_ne (Or.inl (own_at hw 51 rfl)) (Or.inl (own_at hw 55 rfl)) (by decide) (t := .long) (t' := .boolean) (by decide) (by decide)))
        have f279 := f253.other W271 (Or.inr (slot_ne (Or.inl (own_at hw 53 rfl)) (Or.inl (own_at hw 55 rfl)) (by decide) (t := .boolean) (t' := .boolean) (by decide) (by decide)))
        have f280 := f254.same W271
        have f281 := f255.other W271 (Or.inr (slot_ne (Or.inl (own_at hw 62 rfl)) (Or.inl (own_at hw 55 rfl)) (by decide) (t := (.array .int)) (t' := .boolean) (by decide) (by decide)))
        have f282 := f256.other W271 (Or.inr (slot_ne (Or.inl (own_at hw 69 rfl)) (Or.inl (own_at hw 55 rfl)) (by decide) (t := .int) (t' := .boolean) (by decide) (by decide)))
        have f283 := f257.other W271 (Or.inr (slot_ne (Or.inl (own_at hw 21 rfl)) (Or.inl (own_at hw 55 rfl)) (by decide) (t := .int) (t' := .boolean) (by decide) (by decide)))
        have f284 := f258.other W271 (Ne.symm n1)
        have f285 := f259.other W271 (Ne.symm n2)
        have f286 := f260.other W271 (Ne.symm n3)
        have f287 := f261.other W271 (Ne.symm n4)
        have f288 := f262.other W271 (Ne.symm m1)
        have f289 := f263.wr W271
        have f290 := f264.other W271 (Or.inl x1n)
        have f291 := f265.other W271 (Or.inl x1n)
        have K292 := K266.wr W271 (Or.inl (List.mem_of_getElem? (i := 0) rfl))
        have N293 := Fr.snoc X271 N267 gw0
        have Z294 : n0 ≤ h271.size := Nat.le_trans Z268 (Keep.of_wr W271).1
        show own_Goes _ _ _ _ _ _ _ (T271.setTop (mkF m 80 #[.val (.ref x0), .val (.long x1), .second, .val (.ref x2)] []))
        refine own_Goes.step (fun tq kq => XS.aloadN X271.here hx rfl (hb hby d5_80) rfl rfl kq) ?_
        show own_Goes _ _ _ _ _ _ _ (T271.setTop (mkF m 81 #[.val (.ref x0), .val (.long x1), .second, .val (.ref x2)] [(.ref x0)]))
        obtain ⟨T295, X295, e295, st295⟩ := getF X271 hx hZ hown (host := "") (Or.inl (own_at hw 10 rfl)) Via.refl e271 f273 (g := (mkF m 81 #[.val (.ref x0), .val (.long x1), .second, .val (.ref x2)] [(.ref x0)])) rfl rfl (hb hby d5_81)
        refine own_Goes.step st295 ?_
        show own_Goes _ _ _ _ _ _ _ (T295.setTop (mkF m 84 #[.val (.ref x0), .val (.long x1), .second, .val (.ref x2)] [(.ref kA)]))
        refine own_Goes.step (fun tq kq => XS.aloadN X295.here hx rfl (hb hby d5_84) rfl rfl kq) ?_
        show own_Goes _ _ _ _ _ _ _ (T295.setTop (mkF m 85 #[.val (.ref x0), .val (.long x1), .second, .val (.ref x2)] [(.ref x0), (.ref kA)]))
        obtain ⟨T296, X296, e296, st296⟩ := getF X295 hx hZ hown (host := "") (Or.inl (own_at hw 43 rfl)) Via.refl e295 f277 (g := (mkF m 85 #[.val (.ref x0), .val (.long x1), .second, .val (.ref x2)] [(.ref x0), (.ref kA)])) rfl rfl (hb hby d5_85)
        refine own_Goes.step st296 ?_
        show own_Goes _ _ _ _ _ _ _ (T296.setTop (mkF m 88 #[.val (.ref x0), .val (.long x1), .second, .val (.ref x2)] [(.int (Int32.ofNat cnt)), (.ref kA)]))
        refine own_Goes.step (fun tq kq => XT.lloadN X296.here hx rfl (hb hby d5_88) rfl kq) ?_
        show own_Goes _ _ _ _ _ _ _ (T296.setTop (mkF m 89 #[.val (.ref x0), .val (.long x1), .second, .val (.ref x2)] [(.long x1), (.int (Int32.ofNat cnt)), (.ref kA)]))
        obtain ⟨T297, h297, X297, e297, W297, st297⟩ := own_last X296 hx hZ e296 f284 (i := cnt) (own_toI (by omega)) hc16 (g := (mkF m 89 #[.val (.ref x0), .val (.long x1), .second, .val (.ref x2)] [(.long x1), (.int (Int32.ofNat cnt)), (.ref kA)])) rfl rfl (hb hby d5_89)
        refine own_Goes.step st297 ?_
        have f298 := f272.wr W297
        have f299 := f273.other W297 (Or.inl n1)
        have f300 := f274.other W297 (Or.inl n1)
        have f301 := f275.other W297 (Or.inl n1)
        have f302 := f276.other W297 (Or.inl n1)
        have f303 := f277.other W297 (Or.inl n1)
        have f304 := f278.other W297 (Or.inl n1)
        have f305 := f279.other W297 (Or.inl n1)
        have f306 := f280.other W297 (Or.inl n1)
        have f307 := f281.other W297 (Or.inl n1)
        have f308 := f282.other W297 (Or.inl n1)
        have f309 := f283.other W297 (Or.inl n1)
        have f310 : own_Ar Z h297 kA .long 16 (fun uu => .long ((fun j => if j = cnt then x1 else K j) uu)) := (f284.set W297).congr fun j _ => by dsimp only; exact (apply_ite Value.long _ _ _).symm
        have f311 := f285.other W297 (Ne.symm n5)
        have f312 := f286.other W297 (Ne.symm n6)
        have f313 := f287.other W297 (Ne.symm n7)
        have f314 := f288.other W297 (Ne.symm m2)
        have f315 := f289.wr W297
        have f316 := f290.other W297 (Or.inl x2n)
        have f317 := f291.other W297 (Or.inl x2n)
        have K318 := K292.wr W297 (Or.inl (List.mem_of_getElem? (i := 1) rfl))
        have N319 := Fr.snoc X297 N293 gw1
        have Z320 : n0 ≤ h297.size := Nat.le_trans Z294 (Keep.of_wr W297).1
        show own_Goes _ _ _ _ _ _ _ (T297.setTop (mkF m 90 #[.val (.ref x0), .val (.long x1), .second, .val (.ref x2)] []))
        refine own_Goes.step (fun tq kq => XS.aloadN X297.here hx rfl (hb hby d5_90) rfl rfl kq) ?_
        show own_Goes _ _ _ _ _ _ _ (T297.setTop (mkF m 91 #[.val (.ref x0), .val (.long x1), .second, .val (.ref x2)] [(.ref x0)]))
        obtain ⟨T321, X321, e321, st321⟩ := getF X297 hx hZ hown (host := "") (Or.inl (own_at hw 12 rfl)) Via.refl e297 f300 (g := (mkF m 91 #[.val (.ref x0), .val (.long x1), .second, .val (.ref x2)] [(.ref x0)])) rfl rfl (hb hby d5_91)
        refine own_Goes.step st321 ?_
        show own_Goes _ _ _ _ _ _ _ (T321.setTop (mkF m 94 #[.val (.ref x0), .val (.long x1), .second, .val (.ref x2)] [(.ref sA)]))
        refine own_Goes.step (fun tq kq => XS.aloadN X321.here hx rfl (hb hby d5_94) rfl rfl kq) ?_
        show own_Goes _ _ _ _ _ _ _ (T321.setTop (mkF m 95 #[.val (.ref x0), .val (.long x1), .second, .val (.ref x2)] [(.ref x0), (.ref sA)]))
        obtain ⟨T322, X322, e322, st322⟩ := getF X321 hx hZ hown (host := "") (Or.inl (own_at hw 43 rfl)) Via.refl e321 f303 (g := (mkF m 95 #[.val (.ref x0), .val (.long x1), .second, .val (.ref x2)] [(.ref x0), (.ref sA)])) rfl rfl (hb hby d5_95)
        refine own_Goes.step st322 ?_
        show own_Goes _ _ _ _ _ _ _ (T322.setTop (mkF m 98 #[.val (.ref x0), .val (.long x1), .second, .val (.ref x2)] [(.int (Int32.ofNat cnt)), (.ref sA)]))
        refine own_Goes.step (fun tq kq => XS.aloadN X322.here hx rfl (hb hby d5_98) rfl rfl kq) ?_
        show own_Goes _ _ _ _ _ _ _ (T322.setTop (mkF m 99 #[.val (.ref x0), .val (.long x1), .second, .val (.ref x2)] [(.ref x2), (.int (Int32.ofNat cnt)), (.ref sA)]))
        obtain ⟨w323, T323, L323, q323, Y323, st323⟩ := own_virt X322 hx hZ e322 f315 hown (own_at hw 45 rfl) (own_at hw 46 rfl) (own_at hw 48 rfl) (own_at hw 47 rfl) (own_at hw 24 rfl) (own_at hw 49 rfl) (by decide) (own_m6 l Z a0 hw [] x2 z h297 f316 ) (by decide) (W := 2) (by decide) (by decide) (by decide) (g := (mkF m 99 #[.val (.ref x0), .val (.long x1), .second, .val (.ref x2)] [(.ref x2), (.int (Int32.ofNat cnt)), (.ref sA)])) rfl (by rw [hml]; rfl) (argsL := []) (rest := [(.int (Int32.ofNat cnt)), (.ref sA)]) (lenOf pd_6 rfl) rfl (by show 2 * 0 + _ ≤ _; exact Nat.le_of_eq rfl) (hb hby d5_99)
        obtain ⟨e323, X323⟩ := own_clean q323 Y323 rfl rfl
        obtain ⟨rfl, -, -⟩ := q323
        refine own_Goes.step st323 ?_
        show own_Goes _ _ _ _ _ _ _ (T323.setTop (mkF m 102 #[.val (.ref x0), .val (.long x1), .second, .val (.ref x2)] [(.long (own_f6 z)), (.int (Int32.ofNat cnt)), (.ref sA)]))
        obtain ⟨T324, h324, X324, e324, W324, st324⟩ := own_last X323 hx hZ e323 f311 (i := cnt) (own_toI (by omega)) hc16 (g := (mkF m 102 #[.val (.ref x0), .val (.long x1), .second, .val (.ref x2)] [(.long (own_f6 z)), (.int (Int32.ofNat cnt)), (.ref sA)])) rfl rfl (hb hby d5_102)
        refine own_Goes.step st324 ?_
        have f325 := f298.wr W324
        have f326 := f299.other W324 (Or.inl n2)
        have f327 := f300.other W324 (Or.inl n2)
        have f328 := f301.other W324 (Or.inl n2)
        have f329 := f302.other W324 (Or.inl n2)
        have f330 := f303.other W324 (Or.inl n2)
        have f331 := f304.other W324 (Or.inl n2)
        have f332 := f305.other W324 (Or.inl n2)
        have f333 := f306.other W324 (Or.inl n2)
        have f334 := f307.other W324 (Or.inl n2)
        have f335 := f308.other W324 (Or.inl n2)
        have f336 := f309.other W324 (Or.inl n2)
        have f337 := f310.other W324 n5
        have f338 : own_Ar Z h324 sA .long 16 (fun uu => .long ((fun j => if j = cnt then (own_f6 z) else Sz j) uu)) := (f311.set W324).congr fun j _ => by dsimp only; exact (apply_ite Value.long _ _ _).symm
        have f339 := f312.other W324 (Ne.symm n8)
        have f340 := f313.other W324 (Ne.symm n9)
        have f341 := f314.other W324 (Ne.symm m3)
        have f342 := f315.wr W324
        have f343 := f316.other W324 (Or.inl x3n)
        have f344 := f317.other W324 (Or.inl x3n)
        have K345 := K318.wr W324 (Or.inl (List.mem_of_getElem? (i := 2) rfl))
        have N346 := Fr.snoc X324 N319 gw2
        have Z347 : n0 ≤ h324.size := Nat.le_trans Z320 (Keep.of_wr W324).1
        show own_Goes _ _ _ _ _ _ _ (T324.setTop (mkF m 103 #[.val (.ref x0), .val (.long x1), .second, .val (.ref x2)] []))
        refine own_Goes.step (fun tq kq => XS.aloadN X324.here hx rfl (hb hby d5_103) rfl rfl kq) ?_
        show own_Goes _ _ _ _ _ _ _ (T324.setTop (mkF m 104 #[.val (.ref x0), .val (.long x1), .second, .val (.ref x2)] [(.ref x0)]))
        obtain ⟨T348, X348, e348, st348⟩ := getF X324 hx hZ hown (host := "") (Or.inl (own_at hw 15 rfl)) Via.refl e324 f328 (g := (mkF m 104 #[.val (.ref x0), .val (.long x1), .second, .val (.ref x2)] [(.ref x0)])) rfl rfl (hb hby d5_104)
        refine own_Goes.step st348 ?_
        show own_Goes _ _ _ _ _ _ _ (T348.setTop (mkF m 107 #[.val (.ref x0), .val (.long x1), .second, .val (.ref x2)] [(.ref dA)]))
        refine own_Goes.step (fun tq kq => XS.aloadN X348.here hx rfl (hb hby d5_107) rfl rfl kq) ?_
        show own_Goes _ _ _ _ _ _ _ (T348.setTop (mkF m 108 #[.val (.ref x0), .val (.long x1), .second, .val (.ref x2)] [(.ref x0), (.ref dA)]))
        obtain ⟨T349, X349, e349, st349⟩ := getF X348 hx hZ hown (host := "") (Or.inl (own_at hw 43 rfl)) Via.refl e348 f330 (g := (mkF m 108 #[.val (.ref x0), .val (.long x1), .second, .val (.ref x2)] [(.ref x0), (.ref dA)])) rfl rfl (hb hby d5_108)
        refine own_Goes.step st349 ?_
        show own_Goes _ _ _ _ _ _ _ (T349.setTop (mkF m 111 #[.val (.ref x0), .val (.long x1), .second, .val (.ref x2)] [(.int (Int32.ofNat cnt)), (.ref dA)]))
        refine own_Goes.step (fun tq kq => XS.aloadN X349.here hx rfl (hb hby d5_111) rfl rfl kq) ?_
        show own_Goes _ _ _ _ _ _ _ (T349.setTop (mkF m 112 #[.val (.ref x0), .val (.long x1), .second, .val (.ref x2)] [(.ref x2), (.int (Int32.ofNat cnt)), (.ref dA)]))
        obtain ⟨w350, T350, L350, q350, Y350, st350⟩ := own_virt X349 hx hZ e349 f342 hown (own_at hw 56 rfl) (own_at hw 57 rfl) (own_at hw 59 rfl) (own_at hw 58 rfl) (own_at hw 24 rfl) (own_at hw 60 rfl) (by decide) (own_m7 l Z a0 hw [] x2 d h324 f344 ) (by decide) (W := 2) (by decide) (by decide) (by decide) (g := (mkF m 112 #[.val (.ref x0), .val (.long x1), .second, .val (.ref x2)] [(.ref x2), (.int (Int32.ofNat cnt)), (.ref dA)])) rfl (by rw [hml]; rfl) (argsL := []) (rest := [(.int (Int32.ofNat cnt)), (.ref dA)]) (lenOf pd_7 rfl) rfl (by show 2 * 0 + _ ≤ _; exact Nat.le_of_eq rfl) (hb hby d5_112)
        obtain ⟨e350, X350⟩ := own_clean q350 Y350 rfl rfl
        obtain ⟨rfl, -, -⟩ := q350
        refine own_Goes.step st350 ?_
        show own_Goes _ _ _ _ _ _ _ (T350.setTop (mkF m 115 #[.val (.ref x0), .val (.long x1), .second, .val (.ref x2)] [(.int (own_f7 d)), (.int (Int32.ofNat cnt)), (.ref dA)]))
        obtain ⟨T351, h351, X351, e351, W351, st351⟩ := own_zast X350 hx hZ e350 f339 (i := cnt) (own_toI (by omega)) hc16 (g := (mkF m 115 #[.val (.ref x0), .val (.long x1), .second, .val (.ref x2)] [(.int (own_f7 d)), (.int (Int32.ofNat cnt)), (.ref dA)])) rfl rfl (hb hby d5_115)
        refine own_Goes.step st351 ?_
        have f352 := f325.wr W351
        have f353 := f326.other W351 (Or.inl n3)
        have f354 := f327.other W351 (Or.inl n3)
        have f355 := f328.other W351 (Or.inl n3)
        have f356 := f329.other W351 (Or.inl n3)
        have f357 := f330.other W351 (Or.inl n3)
        have f358 := f331.other W351 (Or.inl n3)
        have f359 := f332.other W351 (Or.inl n3)
        have f360 := f333.other W351 (Or.inl n3)
        have f361 := f334.other W351 (Or.inl n3)
        have f362 := f335.other W351 (Or.inl n3)
        have f363 := f336.other W351 (Or.inl n3)
        have f364 := f337.other W351 n6
        have f365 := f338.other W351 n8
        have f366 : own_Ar Z h351 dA .boolean 16 (fun uu => .int ((fun j => if j = cnt then (nar .boolean (own_f7 d)) else D j) uu)) := (f339.set W351).congr fun j _ => by dsimp only; exact (apply_ite Value.int _ _ _).symm
        have f367 := f340.other W351 (Ne.symm n10)
        have f368 := f341.other W351 (Ne.symm m4)
        have f369 := f342.wr W351
        have f370 := f343.other W351 (Or.inl x4n)
        have f371 := f344.other W351 (Or.inl x4n)
        have K372 := K345.wr W351 (Or.inl (List.mem_of_getElem? (i := 3) rfl))
        have N373 := Fr.snoc X351 N346 gw3
        have Z374 : n0 ≤ h351.size := Nat.le_trans Z347 (Keep.of_wr W351).1
        show own_Goes _ _ _ _ _ _ _ (T351.setTop (mkF m 116 #[.val (.ref x0), .val (.long x1), .second, .val (.ref x2)] []))
        refine own_Goes.step (fun tq kq => XS.aloadN X351.here hx rfl (hb hby d5_116) rfl rfl kq) ?_
        show own_Goes _ _ _ _ _ _ _ (T351.setTop (mkF m 117 #[.val (.ref x0), .val (.long x1), .second, .val (.ref x2)] [(.ref x0)]))
        refine own_Goes.step (fun tq kq => XS.dup X351.here hx rfl (hb hby d5_117) rfl rfl kq) ?_
        show own_Goes _ _ _ _ _ _ _ (T351.setTop (mkF m 118 #[.val (.ref x0), .val (.long x1), .second, .val (.ref x2)] [(.ref x0), (.ref x0)]))
        obtain ⟨T375, X375, e375, st375⟩ := getF X351 hx hZ hown (host := "") (Or.inl (own_at hw 43 rfl)) Via.refl e351 f357 (g := (mkF m 118 #[.val (.ref x0), .val (.long x1), .second, .val (.ref x2)] [(.ref x0), (.ref x0)])) rfl rfl (hb hby d5_118)
        refine own_Goes.step st375 ?_
        show own_Goes _ _ _ _ _ _ _ (T375.setTop (mkF m 121 #[.val (.ref x0), .val (.long x1), .second, .val (.ref x2)] [(.int (Int32.ofNat cnt)), (.ref x0)]))
        refine own_Goes.step (fun tq kq => XT.iconstV X375.here hx rfl (1 : Int32) (hb hby d5_121) (by decide) kq) ?_
        show own_Goes _ _ _ _ _ _ _ (T375.setTop (mkF m 122 #[.val (.ref x0), .val (.long x1), .second, .val (.ref x2)] [(.int (1 : Int32)), (.int (Int32.ofNat cnt)), (.ref x0)]))
        refine own_Goes.step (fun tq kq => XS.iadd X375.here hx rfl (hb hby d5_122) rfl kq) ?_
        show own_Goes _ _ _ _ _ _ _ (T375.setTop (mkF m 123 #[.val (.ref x0), .val (.long x1), .second, .val (.ref x2)] [(.int ((Int32.ofNat cnt) + (1 : Int32))), (.ref x0)]))
        obtain ⟨T376, h376, X376, e376, W376, st376⟩ := putF X375 hx hZ hown (host := "") (Or.inl (own_at hw 43 rfl)) Via.refl e375 (v := (.int ((Int32.ofNat cnt) + (1 : Int32)))) f357 f352 (Or.inl (own_at hw 44 rfl)) (own_at hw 1 rfl) (ty := .int) (by decide) rfl rfl (g := (mkF m 123 #[.val (.ref x0), .val (.long x1), .second, .val (.ref x2)] [(.int ((Int32.ofNat cnt) + (1 : Int32))), (.ref x0)])) rfl rfl (hb hby d5_123)
        refine own_Goes.step st376 ?_
        have f377 := f352.wr W376
        have f378 := f353.other W376 (Or.inr (slot_ne (Or.inl (own_at hw 11 rfl)) (Or.inl (own_at hw 44 rfl)) (by decide) (t := (.array .long)) (t' := .int) (by decide) (by decide)))
        have f379 := f354.other W376 (Or.inr (slot_ne (Or.inl (own_at hw 13 rfl)) (Or.inl (own_at hw 44 rfl)) (by decide) (t := (.array .long)) (t' := .int) (by decide) (by decide)))
        have f380 := f355.other W376 (Or.inr (slot_ne (Or.inl (own_at hw 16 rfl)) (Or.inl (own_at hw 44 rfl)) (by decide) (t := (.array .boolean)) (t' := .int) (by decide) (by decide)))
        have f381 := f356.other W376 (Or.inr (slot_ne (Or.inl (own_at hw 19 rfl)) (Or.inl (own_at hw 44 rfl)) (by decide) (t := (.array .int)) (t' := .int) (by decide) (by decide)))
        have f382 := f357.same W376
        have f383 := f358.other W376 (Or.inr (slot_ne (Or.inl (own_at hw 51 rfl)) (Or.inl (own_at hw 44 rfl)) (by decide) (t := .long) (t' := .int) (by decide) (by decide)))
        have f384 := f359.other W376 (Or.inr (slot_ne (Or.inl (own_at hw 53 rfl)) (Or.inl (own_at hw 44 rfl)) (by decide) (t := .boolean) (t' := .int) (by decide) (by decide)))
        have f385 := f360.other W376 (Or.inr (slot_ne (Or.inl (own_at hw 55 rfl)) (Or.inl (own_at hw 44 rfl)) (by decide) (t := .boolean) (t' := .int) (by decide) (by decide)))
        have f386 := f361.other W376 (Or.inr (slot_ne (Or.inl (own_at hw 62 rfl)) (Or.inl (own_at hw 44 rfl)) (by decide) (t := (.array .int)) (t' := .int) (by decide) (by decide)))
        have f387 := f362.other W376 (Or.inr (slot_ne (Or.inl (own_at hw 69 rfl)) (Or.inl (own_at hw 44 rfl)) (by decide) (t := .int) (t' := .int) (by decide) (by decide)))
        have f388 := f363.other W376 (Or.inr (slot_ne (Or.inl (own_at hw 21 rfl)) (Or.inl (own_at hw 44 rfl)) (by decide) (t := .int) (t' := .int) (by decide) (by decide)))
        have f389 := f364.other W376 (Ne.symm n1)
        have f390 := f365.other W376 (Ne.symm n2)
        have f391 := f366.other W376 (Ne.symm n3)
        have f392 := f367.other W376 (Ne.symm n4)
        have f393 := f368.other W376 (Ne.symm m1)
        have f394 := f369.wr W376
        have f395 := f370.other W376 (Or.inl x1n)
        have f396 := f371.other W376 (Or.inl x1n)
        have K397 := K372.wr W376 (Or.inl (List.mem_of_getElem? (i := 0) rfl))
        have N398 := Fr.snoc X376 N373 gw0
        have Z399 : n0 ≤ h376.size := Nat.le_trans Z374 (Keep.of_wr W376).1
        show own_Goes _ _ _ _ _ _ _ (T376.setTop (mkF m 126 #[.val (.ref x0), .val (.long x1), .second, .val (.ref x2)] []))
        refine own_Goes.step (fun tq kq => XS.aloadN X376.here hx rfl (hb hby d5_126) rfl rfl kq) ?_
        show own_Goes _ _ _ _ _ _ _ (T376.setTop (mkF m 127 #[.val (.ref x0), .val (.long x1), .second, .val (.ref x2)] [(.ref x0)]))
        obtain ⟨T400, X400, e400, st400⟩ := getF X376 hx hZ hown (host := "") (Or.inl (own_at hw 61 rfl)) Via.refl e376 f386 (g := (mkF m 127 #[.val (.ref x0), .val (.long x1), .second, .val (.ref x2)] [(.ref x0)])) rfl rfl (hb hby d5_127)
        refine own_Goes.step st400 ?_
        show own_Goes _ _ _ _ _ _ _ (T400.setTop (mkF m 130 #[.val (.ref x0), .val (.long x1), .second, .val (.ref x2)] [(.ref iA)]))
        refine own_Goes.step (fun tq kq => XS.ifnullNo X400.here hx rfl (hb hby d5_130) rfl kq) ?_
        show own_Goes _ _ _ _ _ _ _ (T400.setTop (mkF m 133 #[.val (.ref x0), .val (.long x1), .second, .val (.ref x2)] []))
        refine own_Goes.step (fun tq kq => XS.aloadN X400.here hx rfl (hb hby d5_133) rfl rfl kq) ?_
        show own_Goes _ _ _ _ _ _ _ (T400.setTop (mkF m 134 #[.val (.ref x0), .val (.long x1), .second, .val (.ref x2)] [(.ref x0)]))
        refine own_Goes.step (fun tq kq => XS.aloadN X400.here hx rfl (hb hby d5_134) rfl rfl kq) ?_
        show own_Goes _ _ _ _ _ _ _ (T400.setTop (mkF m 135 #[.val (.ref x0), .val (.long x1), .second, .val (.ref x2)] [(.ref x0), (.ref x0)]))
        obtain ⟨T402, X402, e402, st402⟩ := getF X400 hx hZ hown (host := "") (Or.inl (own_at hw 43 rfl)) Via.refl e400 f382 (g := (mkF m 135 #[.val (.ref x0), .val (.long x1), .second, .val (.ref x2)] [(.ref x0), (.ref x0)])) rfl rfl (hb hby d5_135)
        refine own_Goes.step st402 ?_
        show own_Goes _ _ _ _ _ _ _ (T402.setTop (mkF m 138 #[.val (.ref x0), .val (.long x1), .second, .val (.ref x2)] [(.int ((Int32.ofNat cnt) + (1 : Int32))), (.ref x0)]))
        refine own_Goes.step (fun tq kq => XT.iconstV X402.here hx rfl (1 : Int32) (hb hby d5_138) (by decide) kq) ?_
        show own_Goes _ _ _ _ _ _ _ (T402.setTop (mkF m 139 #[.val (.ref x0), .val (.long x1), .second, .val (.ref x2)] [(.int (1 : Int32)), (.int ((Int32.ofNat cnt) + (1 : Int32))), (.ref x0)]))
        refine own_Goes.step (fun tq kq => XS.isub X402.here hx rfl (hb hby d5_139) rfl kq) ?_
        show own_Goes _ _ _ _ _ _ _ (T402.setTop (mkF m 140 #[.val (.ref x0), .val (.long x1), .second, .val (.ref x2)] [(.int (((Int32.ofNat cnt) + (1 : Int32)) - (1 : Int32))), (.ref x0)]))
        obtain ⟨w403, T403, L403, q403, Y403, st403⟩ := own_priv X402 hx hZ e402 f377 hown (own_at hw 94 rfl) (own_at hw 96 rfl) (own_at hw 1 rfl) (own_at hw 95 rfl) (own_at hw 2 rfl) (own_at hw 97 rfl) (by decide) (own_m14 l Z a0 hw [] x0 (((Int32.ofNat cnt) + (1 : Int32)) - (1 : Int32)) kA sA dA pA (own_setJ K cnt x1) (own_setJ Sz cnt z) (own_set D cnt (nar .boolean (own_f7 d))) (cnt + 1) fs (mx ||| (own_f5s_1 z fs)) (am ||| (own_f7 d)) la ix iA S cnt tt n0 h376 ⟨f377, f378, f379, f380, f381, (own_cnt cnt ▸ f382), f383, f384, f385, f386, f387, f388, f389, f390, f391, f392, n1, n2, n3, n4, n5, n6, n7, n8, n9, n10, gw0, gw1, gw2, gw3, (own_orb (by first | exact Or.inl rfl | exact hmx) (by unfold own_f5s_1; split <;> first | exact Or.inl rfl | exact Or.inr rfl)), (own_orb (by first | exact Or.inl rfl | exact ham) (own_d7 hd))⟩ ⟨f393, m1, m2, m3, m4, m5, gi⟩ hS (by rw [own_cnt, own_cntp, own_toI (by omega)]) hc16 (by rw [show own_setJ K cnt x1 cnt = x1 from if_pos rfl]; exact hm) htt hix) (by decide) (W := 0) (by decide) (by decide) (by decide) (g := (mkF m 140 #[.val (.ref x0), .val (.long x1), .second, .val (.ref x2)] [(.int (((Int32.ofNat cnt) + (1 : Int32)) - (1 : Int32))), (.ref x0)])) rfl (by rw [hml]; rfl) (argsL := [(.int (((Int32.ofNat cnt) + (1 : Int32)) - (1 : Int32)))]) (rest := []) (lenOf pd_14 rfl) rfl (by show 2 * 0 + _ ≤ _; exact Nat.le_of_eq rfl) (hb hby d5_140)
        obtain ⟨rfl, N403, K403, hif⟩ := q403
        have Nn403 := Fr.app N398 N403
        have Kn403 := K397.trans K403 own_kt5
        refine own_Goes.step st403 ?_
        show own_Goes _ _ _ _ _ _ _ (T403.setTop (mkF m 143 #[.val (.ref x0), .val (.long x1), .second, .val (.ref x2)] []))
        refine own_endV Y403 hx Bd.notSynchronized Bd.returns (hb hby d5_143) ?_ (by decide) (by decide)
        show own_F5s Z x0 x1 x2 kA sA dA pA K Sz D cnt fs mx am la ix z d iA S tt n0 h0 _ T403.heap _
        refine ⟨rfl, Nn403, Kn403, fs, (mx ||| (own_f5s_1 z fs)), (am ||| (own_f7 d)), fun q => absurd (by rw [q]; rfl) hc5, ?_⟩
        exact hif
      by_cases hc244 : (own_f6 z) = fs
      · refine own_Goes.step (fun tq kq => XS.ifYes X243.here hx rfl (pc0 := 55) (pc' := 62) rfl (hb hby d5_55) rfl (XT.ll_eq_t hc244) (by decide) (by decide) kq) ?_
        show own_Goes _ _ _ _ _ _ _ (T243.setTop (mkF m 62 #[.val (.ref x0), .val (.long x1), .second, .val (.ref x2)] [(.int mx), (.ref x0)]))
        refine own_Goes.step (fun tq kq => XT.iconstV X243.here hx rfl (0 : Int32) (hb hby d5_62) (by decide) kq) ?_
        show own_Goes _ _ _ _ _ _ _ (T243.setTop (mkF m 63 #[.val (.ref x0), .val (.long x1), .second, .val (.ref x2)] [(.int (0 : Int32)), (.int mx), (.ref x0)]))
        rw [show (own_f5s_1 z fs) = (0 : Int32) from by simp only [own_f5s_1, if_pos hc244]] at J404
        exact J404
      · refine own_Goes.step (fun tq kq => XS.ifNo X243.here hx rfl (hb hby d5_55) rfl (XT.ll_eq_f hc244) kq) ?_
        show own_Goes _ _ _ _ _ _ _ (T243.setTop (mkF m 58 #[.val (.ref x0), .val (.long x1), .second, .val (.ref x2)] [(.int mx), (.ref x0)]))
        refine own_Goes.step (fun tq kq => XT.iconstV X243.here hx rfl (1 : Int32) (hb hby d5_58) (by decide) kq) ?_
        show own_Goes _ _ _ _ _ _ _ (T243.setTop (mkF m 59 #[.val (.ref x0), .val (.long x1), .second, .val (.ref x2)] [(.int (1 : Int32)), (.int mx), (.ref x0)]))
        refine own_Goes.step (fun tq kq => XS.goto X243.here hx rfl (pc0 := 59) (pc' := 63) rfl (hb hby d5_59) (by decide) (by decide) kq) ?_
        show own_Goes _ _ _ _ _ _ _ (T243.setTop (mkF m 63 #[.val (.ref x0), .val (.long x1), .second, .val (.ref x2)] [(.int (1 : Int32)), (.int mx), (.ref x0)]))
        rw [show (own_f5s_1 z fs) = (1 : Int32) from by simp only [own_f5s_1, if_neg hc244]] at J404
        exact J404
  obtain ⟨t2, o2, q1, q2, q3, q4⟩ := hgo
  exact ⟨t2, o2, castTop (ef_5 m x0 x1 x2) q1, q2, q3, q4⟩
theorem d9_0 : decode prog_67_method_5_code 0 = .ok (.aload_n 0, 1) := by decide +kernel
theorem d9_1 : decode prog_67_method_5_code 1 = .ok (.getfield 28, 3) := by decide +kernel
theorem d9_4 : decode prog_67_method_5_code 4 = .ok (.ifCond .ne 7, 3) := by decide +kernel
theorem d9_7 : decode prog_67_method_5_code 7 = .ok (.iconst 1, 1) := by decide +kernel
theorem d9_8 : decode prog_67_method_5_code 8 = .ok (.goto 4, 3) := by decide +kernel
theorem d9_11 : decode prog_67_method_5_code 11 = .ok (.iconst 0, 1) := by decide +kernel
theorem d9_12 : decode prog_67_method_5_code 12 = .ok (.ireturn, 1) := by decide +kernel
theorem pn_9 : plainName "com/example/strati/strati/sim/WriteBuffer" = true := by first | (simp [plainName, overriddenIn]; done) | decide +kernel
theorem pd_9 : parseMethodDescriptor "()Z" = some ⟨[], (some .boolean)⟩ := by decide +kernel
theorem ef_9 (m : MethodId) (x0 : Addr) : entryFrame m #[(.ref x0)] 1 = mkF m 0 #[.val (.ref x0)] [] := by first | (simp [entryFrame, mkF, argsToLocals, Value.category]; done) | rfl
def own_f9 (vc : Int32) : Int32 := (if vc = (0 : Int32) then (1 : Int32) else (0 : Int32))
def own_F9 (Z : State) (x0 : Addr) (vc : Int32) (h0 : Heap) (v : Option Value) (h : Heap) (L : List Loc) : Prop := v = some (.int (own_f9 vc)) ∧ L = [] ∧ h = h0
set_option maxRecDepth 65536 in
set_option maxHeartbeats 40000000 in
theorem own_m9 (l : Launch) (Z : State) (a0 : Array Value) (hw : ∀ d ∈ tables_1, d.before a0 Z = true) (ws : List Jvm.Cond) (x0 : Addr) (vc : Int32) (h0 : Heap) (P0 : Fld Z h0 x0 "com/example/strati/strati/sim/WriteBuffer" "count" "I" (.int vc))  :
    MetFree l (⟨"com/example/strati/strati/sim/WriteBuffer", "isEmpty", "()Z"⟩ : MethodName) (head1 (Jvm.Cond.code (⟨"com/example/strati/strati/sim/WriteBuffer", "isEmpty", "()Z"⟩ : MethodName) prog_67_method_5_code 1 (some .boolean) :: ws) ({ frames := 0, cells := 0, slots := 0, locals := 0 } : Room)) (fun a U => a = #[(.ref x0)] ∧ Z.Warmed39 U.vm ∧ U.heap = h0) (fun _ _ _ _ _ => True) (fun _ U o U' => ∃ v L, o = .returned v ∧ own_F9 Z x0 vc h0 v U'.heap L ∧ FrameEnd U o U' L ({ frames := 0, cells := 0, slots := 0, locals := 0 } : Room).cells ({ frames := 0, cells := 0, slots := 0, locals := 0 } : Room).slots) := by
  refine MetFree.of_bodySF (plainFor_of_name pn_9) hisR ?_
  intro p e s m args below meth c s₁ Bd hml0 hP hK
  obtain ⟨rfl, hZ, hh⟩ := hP
  have hx := Bd.exec
  have hby := Bd.bytes
  have hml : c.maxLocals = 1 := hml0
  have hown : s.vm.findClass "com/example/strati/strati/sim/WriteBuffer" = some m.cls := findClass_of_methodNamed Bd.named
  have hnm := (name_of_methodNamed Bd.named Bd.method).1
  have X0 : Stand p l e ({ frames := 0, cells := 0, slots := 0, locals := 0 } : Room) s m #[(.ref x0)] below meth c s₁ [] 0 0 := Stand.of_body Bd
  have e0 : s₁.heap = h0 := by rw [← hh, Bd.state]; rfl
  have hgo : own_Goes p e below s (own_F9 Z x0 vc h0) 0 0 (s₁.setTop (mkF m 0 #[.val (.ref x0)] [])) := by
    refine own_Goes.step (fun tq kq => XS.aloadN X0.here hx rfl (hb hby d9_0) rfl rfl kq) ?_
    show own_Goes _ _ _ _ _ _ _ (s₁.setTop (mkF m 1 #[.val (.ref x0)] [(.ref x0)]))
    obtain ⟨T1, X1, e1, st1⟩ := getF X0 hx hZ hown (host := "") (Or.inl (own_at hw 43 rfl)) Via.refl e0 P0 (g := (mkF m 1 #[.val (.ref x0)] [(.ref x0)])) rfl rfl (hb hby d9_1)
    refine own_Goes.step st1 ?_
    show own_Goes _ _ _ _ _ _ _ (T1.setTop (mkF m 4 #[.val (.ref x0)] [(.int vc)]))
    by_cases hc2 : vc = (0 : Int32)
    · refine own_Goes.step (fun tq kq => XS.ifNo X1.here hx rfl (hb hby d9_4) rfl (XT.i0_ne_f hc2) kq) ?_
      show own_Goes _ _ _ _ _ _ _ (T1.setTop (mkF m 7 #[.val (.ref x0)] []))
      refine own_Goes.step (fun tq kq => XT.iconstV X1.here hx rfl (1 : Int32) (hb hby d9_7) (by decide) kq) ?_
      show own_Goes _ _ _ _ _ _ _ (T1.setTop (mkF m 8 #[.val (.ref x0)] [(.int (1 : Int32))]))
      refine own_Goes.step (fun tq kq => XS.goto X1.here hx rfl (pc0 := 8) (pc' := 12) rfl (hb hby d9_8) (by decide) (by decide) kq) ?_
      show own_Goes _ _ _ _ _ _ _ (T1.setTop (mkF m 12 #[.val (.ref x0)] [(.int (1 : Int32))]))
      exact own_endN X1 hx Bd.notSynchronized (t := .boolean) Bd.returns (by simp) (hb hby d9_12) ⟨(congrArg (fun z => some (Value.int z)) (show (1 : Int32) = own_f9 vc from by simp only [own_f9, if_pos hc2])), rfl, e1⟩ (by decide) (by decide)
    · refine own_Goes.step (fun tq kq => XS.ifYes X1.here hx rfl (pc0 := 4) (pc' := 11) rfl (hb hby d9_4) rfl (XT.i0_ne_t hc2) (by decide) (by decide) kq) ?_
      show own_Goes _ _ _ _ _ _ _ (T1.setTop (mkF m 11 #[.val (.ref x0)] []))
      refine own_Goes.step (fun tq kq => XT.iconstV X1.here hx rfl (0 : Int32) (hb hby d9_11) (by decide) kq) ?_
      show own_Goes _ _ _ _ _ _ _ (T1.setTop (mkF m 12 #[.val (.ref x0)] [(.int (0 : Int32))]))
      exact own_endN X1 hx Bd.notSynchronized (t := .boolean) Bd.returns (by simp) (hb hby d9_12) ⟨(congrArg (fun z => some (Value.int z)) (show (0 : Int32) = own_f9 vc from by simp only [own_f9, if_neg hc2])), rfl, e1⟩ (by decide) (by decide)
  obtain ⟨t2, o2, q1, q2, q3, q4⟩ := hgo
  exact ⟨t2, o2, castTop (ef_9 m x0) q1, q2, q3, q4⟩
theorem d1_0 : decode prog_67_method_1_code 0 = .ok (.aload_n 0, 1) := by decide +kernel
theorem d1_1 : decode prog_67_method_1_code 1 = .ok (.invokespecial 1, 3) := by decide +kernel
theorem d1_4 : decode prog_67_method_1_code 4 = .ok (.aload_n 0, 1) := by decide +kernel
theorem d1_5 : decode prog_67_method_1_code 5 = .ok (.bipush 16, 2) := by decide +kernel
theorem d1_7 : decode prog_67_method_1_code 7 = .ok (.newarray .long, 2) := by decide +kernel
theorem d1_9 : decode prog_67_method_1_code 9 = .ok (.putfield 9, 3) := by decide +kernel
theorem d1_12 : decode prog_67_method_1_code 12 = .ok (.aload_n 0, 1) := by decide +kernel
theorem d1_13 : decode prog_67_method_1_code 13 = .ok (.bipush 16, 2) := by decide +kernel
theorem d1_15 : decode prog_67_method_1_code 15 = .ok (.newarray .long, 2) := by decide +kernel
theorem d1_17 : decode prog_67_method_1_code 17 = .ok (.putfield 13, 3) := by decide +kernel
theorem d1_20 : decode prog_67_method_1_code 20 = .ok (.aload_n 0, 1) := by decide +kernel
theorem d1_21 : decode prog_67_method_1_code 21 = .ok (.bipush 16, 2) := by decide +kernel
theorem d1_23 : decode prog_67_method_1_code 23 = .ok (.newarray .boolean, 2) := by decide +kernel
theorem d1_25 : decode prog_67_method_1_code 25 = .ok (.putfield 16, 3) := by decide +kernel
theorem d1_28 : decode prog_67_method_1_code 28 = .ok (.aload_n 0, 1) := by decide +kernel
theorem d1_29 : decode prog_67_method_1_code 29 = .ok (.iconst 0, 1) := by decide +kernel
theorem d1_30 : decode prog_67_method_1_code 30 = .ok (.newarray .int, 2) := by decide +kernel
theorem d1_32 : decode prog_67_method_1_code 32 = .ok (.putfield 20, 3) := by decide +kernel
theorem d1_35 : decode prog_67_method_1_code 35 = .ok (.aload_n 0, 1) := by decide +kernel
theorem d1_36 : decode prog_67_method_1_code 36 = .ok (.iconst (-1), 1) := by decide +kernel
theorem d1_37 : decode prog_67_method_1_code 37 = .ok (.putfield 24, 3) := by decide +kernel
theorem d1_40 : decode prog_67_method_1_code 40 = .ok (.return_, 1) := by decide +kernel
theorem pn_1 : plainName "com/example/strati/strati/sim/WriteBuffer" = true := by first | (simp [plainName, overriddenIn]; done) | decide +kernel
theorem pd_1 : parseMethodDescriptor "()V" = some ⟨[], none⟩ := by decide +kernel
theorem ef_1 (m : MethodId) (x0 : Addr) : entryFrame m #[(.ref x0)] 1 = mkF m 0 #[.val (.ref x0)] [] := by first | (simp [entryFrame, mkF, argsToLocals, Value.category]; done) | rfl
def own_F1 (Z : State) (x0 : Addr)  (n0 : Nat) (h0 : Heap) (v : Option Value) (h : Heap) (L : List Loc) : Prop := v = none ∧ Fr n0 L ∧ Keep h0 h [x0] ∧ ∃ (kA sA dA pA : Addr), h0.size ≤ kA ∧ h0.size ≤ sA ∧ h0.size ≤ dA ∧ h0.size ≤ pA ∧ own_W Z h n0 x0 kA sA dA pA .null (fun _ => 0) (fun _ => 0) (fun _ => 0) 0 0 0 0 0 (-1 : Int32)
set_option maxRecDepth 65536 in
set_option maxHeartbeats 40000000 in
theorem own_m1 (l : Launch) (Z : State) (a0 : Array Value) (hw : ∀ d ∈ tables_1, d.before a0 Z = true) (ws : List Jvm.Cond) (x0 : Addr)  (n0 : Nat) (h0 : Heap)  (E0 : Exa Z h0 x0 "com/example/strati/strati/sim/WriteBuffer") (g0 : n0 ≤ x0) (P0 : Fld Z h0 x0 "com/example/strati/strati/sim/WriteBuffer" "keys" "[J" .null) (P1 : Fld Z h0 x0 "com/example/strati/strati/sim/WriteBuffer" "sizes" "[J" .null) (P2 : Fld Z h0 x0 "com/example/strati/strati/sim/WriteBuffer" "deletes" "[Z" .null) (P3 : Fld Z h0 x0 "com/example/strati/strati/sim/WriteBuffer" "positions" "[I" .null) (P4 : Fld Z h0 x0 "com/example/strati/strati/sim/WriteBuffer" "count" "I" (.int (0 : Int32))) (P5 : Fld Z h0 x0 "com/example/strati/strati/sim/WriteBuffer" "firstSize" "J" (.long (0 : Int64))) (P6 : Fld Z h0 x0 "com/example/strati/strati/sim/WriteBuffer" "mixedSizes" "Z" (.int (0 : Int32))) (P7 : Fld Z h0 x0 "com/example/strati/strati/sim/WriteBuffer" "anyMarker" "Z" (.int (0 : Int32))) (P8 : Fld Z h0 x0 "com/example/strati/strati/sim/WriteBuffer" "slots" "[I" .null) (P9 : Fld Z h0 x0 "com/example/strati/strati/sim/WriteBuffer" "indexed" "I" (.int (0 : Int32))) (P10 : Fld Z h0 x0 "com/example/strati/strati/sim/WriteBuffer" "lastAdded" "I" (.int (0 : Int32))) :
    MetFree l (⟨"com/example/strati/strati/sim/WriteBuffer", "<init>", "()V"⟩ : MethodName) (head1 (Jvm.Cond.code (⟨"com/example/strati/strati/sim/WriteBuffer", "<init>", "()V"⟩ : MethodName) prog_67_method_1_code 1 none :: ws) ({ frames := 1, cells := 4, slots := 48, locals := 12 } : Room)) (fun a U => a = #[(.ref x0)] ∧ Z.Warmed39 U.vm ∧ U.heap = h0) (fun _ _ _ _ _ => True) (fun _ U o U' => ∃ v L, o = .returned v ∧ own_F1 Z x0 n0 h0 v U'.heap L ∧ FrameEnd U o U' L ({ frames := 1, cells := 4, slots := 48, locals := 12 } : Room).cells ({ frames := 1, cells := 4, slots := 48, locals := 12 } : Room).slots) := by
  refine MetFree.of_bodySF (plainFor_of_name pn_1) hisR ?_
  intro p e s m args below meth c s₁ Bd hml0 hP hK
  obtain ⟨rfl, hZ, hh⟩ := hP
  have hx := Bd.exec
  have hby := Bd.bytes
  have hml : c.maxLocals = 1 := hml0
  have hown : s.vm.findClass "com/example/strati/strati/sim/WriteBuffer" = some m.cls := findClass_of_methodNamed Bd.named
  have hnm := (name_of_methodNamed Bd.named Bd.method).1
  have X0 : Stand p l e ({ frames := 1, cells := 4, slots := 48, locals := 12 } : Room) s m #[(.ref x0)] below meth c s₁ [] 0 0 := Stand.of_body Bd
  have e0 : s₁.heap = h0 := by rw [← hh, Bd.state]; rfl
  have Z0 : n0 ≤ h0.size := Nat.le_trans g0 (Nat.le_of_lt E0.lt)
  have N0 := Fr.nil n0
  have K0 : Keep h0 h0 [x0] := Keep.refl h0 [x0]
  have hgo : own_Goes p e below s (own_F1 Z x0 n0 h0) 4 48 (s₁.setTop (mkF m 0 #[.val (.ref x0)] [])) := by
    refine own_Goes.step (fun tq kq => XS.aloadN X0.here hx rfl (hb hby d1_0) rfl rfl kq) ?_
    show own_Goes _ _ _ _ _ _ _ (s₁.setTop (mkF m 1 #[.val (.ref x0)] [(.ref x0)]))
    obtain ⟨T1, X1, e1, st1⟩ := initO X0 hx hZ hown (own_at hw 6 rfl) (own_at hw 7 rfl) (own_at hw 8 rfl) e0 (g := (mkF m 1 #[.val (.ref x0)] [(.ref x0)])) rfl (by rw [hml]; rfl) rfl (hb hby d1_1) (by decide) (W := 0) (by show 2 * 0 + _ ≤ _; exact Nat.le_of_eq rfl) (by decide)
    refine own_Goes.step st1 ?_
    show own_Goes _ _ _ _ _ _ _ (T1.setTop (mkF m 4 #[.val (.ref x0)] []))
    refine own_Goes.step (fun tq kq => XS.aloadN X1.here hx rfl (hb hby d1_4) rfl rfl kq) ?_
    show own_Goes _ _ _ _ _ _ _ (T1.setTop (mkF m 5 #[.val (.ref x0)] [(.ref x0)]))
    refine own_Goes.step (fun tq kq => XT.bipushV X1.here hx rfl (16 : Int32) (hb hby d1_5) (by decide) kq) ?_
    show own_Goes _ _ _ _ _ _ _ (T1.setTop (mkF m 7 #[.val (.ref x0)] [(.int (16 : Int32)), (.ref x0)]))
    obtain ⟨T2, h2, k2, X2, e2, E2, A2, st2⟩ := newP X1 hx hZ (own_at hw 9 rfl) e1 (g := (mkF m 7 #[.val (.ref x0)] [(.int (16 : Int32)), (.ref x0)])) rfl (hb hby d1_7) rfl (by decide) (cap := 16) (by decide) (by decide) (by decide) (by decide)
    obtain ⟨a2, g2⟩ : ∃ z, z = h0.size := ⟨_, rfl⟩
    rw [← g2] at A2 st2
    have ne3 : x0 ≠ a2 := by rw [g2]; exact Nat.ne_of_lt E0.lt
    have f4 := Jvm.RoadKit.Exa.ext E2 E0
    have f5 := Jvm.RoadKit.Fld.ext E2 P0
    have f6 := Jvm.RoadKit.Fld.ext E2 P1
    have f7 := Jvm.RoadKit.Fld.ext E2 P2
    have f8 := Jvm.RoadKit.Fld.ext E2 P3
    have f9 := Jvm.RoadKit.Fld.ext E2 P4
    have f10 := Jvm.RoadKit.Fld.ext E2 P5
    have f11 := Jvm.RoadKit.Fld.ext E2 P6
    have f12 := Jvm.RoadKit.Fld.ext E2 P7
    have f13 := Jvm.RoadKit.Fld.ext E2 P8
    have f14 := Jvm.RoadKit.Fld.ext E2 P9
    have f15 := Jvm.RoadKit.Fld.ext E2 P10
    have r2 : own_Ar Z h2 a2 .long 16 (fun uu => .long ((fun _ => (0 : Int64)) uu)) := own_Ar.new A2
    have ga2 : n0 ≤ a2 := Nat.le_trans Z0 (Nat.le_of_eq g2.symm)
    have Z2 : n0 ≤ h2.size := Nat.le_trans Z0 E2.1
    have K2 := K0.ext E2
    have Kh2 : h0.size ≤ a2 := Nat.le_trans K0.1 (Nat.le_of_eq g2.symm)
    refine own_Goes.step st2 ?_
    show own_Goes _ _ _ _ _ _ _ (T2.setTop (mkF m 9 #[.val (.ref x0)] [(.ref a2), (.ref x0)]))
    obtain ⟨T16, h16, X16, e16, W16, st16⟩ := putF X2 hx hZ hown (host := "") (Or.inl (own_at hw 10 rfl)) Via.refl e2 (v := (.ref a2)) f5 f4 (Or.inl (own_at hw 11 rfl)) (own_at hw 1 rfl) (ty := (.array .long)) (by decide) rfl rfl (g := (mkF m 9 #[.val (.ref x0)] [(.ref a2), (.ref x0)])) rfl rfl (hb hby d1_9)
    refine own_Goes.step st16 ?_
    have f17 := f4.wr W16
    have f18 := f5.same W16
    have f19 := f6.other W16 (Or.inr (slot_ne (Or.inl (own_at hw 13 rfl)) (Or.inl (own_at hw 11 rfl)) (by decide) (t := (.array .long)) (t' := (.array .long)) (by decide) (by decide)))
    have f20 := f7.other W16 (Or.inr (slot_ne (Or.inl (own_at hw 16 rfl)) (Or.inl (own_at hw 11 rfl)) (by decide) (t := (.array .boolean)) (t' := (.array .long)) (by decide) (by decide)))
    have f21 := f8.other W16 (Or.inr (slot_ne (Or.inl (own_at hw 19 rfl)) (Or.inl (own_at hw 11 rfl)) (by decide) (t := (.array .int)) (t' := (.array .long)) (by decide) (by decide)))
    have f22 := f9.other W16 (Or.inr (slot_ne (Or.inl (own_at hw 44 rfl)) (Or.inl (own_at hw 11 rfl)) (by decide) (t := .int) (t' := (.array .long)) (by decide) (by decide)))
    have f23 := f10.other W16 (Or.inr (slot_ne (Or.inl (own_at hw 51 rfl)) (Or.inl (own_at hw 11 rfl)) (by decide) (t := .long) (t' := (.array .long)) (by decide) (by decide)))
    have f24 := f11.other W16 (Or.inr (slot_ne (Or.inl (own_at hw 53 rfl)) (Or.inl (own_at hw 11 rfl)) (by decide) (t := .boolean) (t' := (.array .long)) (by decide) (by decide)))
    have f25 := f12.other W16 (Or.inr (slot_ne (Or.inl (own_at hw 55 rfl)) (Or.inl (own_at hw 11 rfl)) (by decide) (t := .boolean) (t' := (.array .long)) (by decide) (by decide)))
    have f26 := f13.other W16 (Or.inr (slot_ne (Or.inl (own_at hw 62 rfl)) (Or.inl (own_at hw 11 rfl)) (by decide) (t := (.array .int)) (t' := (.array .long)) (by decide) (by decide)))
    have f27 := f14.other W16 (Or.inr (slot_ne (Or.inl (own_at hw 69 rfl)) (Or.inl (own_at hw 11 rfl)) (by decide) (t := .int) (t' := (.array .long)) (by decide) (by decide)))
    have f28 := f15.other W16 (Or.inr (slot_ne (Or.inl (own_at hw 21 rfl)) (Or.inl (own_at hw 11 rfl)) (by decide) (t := .int) (t' := (.array .long)) (by decide) (by decide)))
    have f29 := r2.other W16 (Ne.symm ne3)
    have K30 := K2.wr W16 (Or.inl (List.mem_of_getElem? (i := 0) rfl))
    have N31 := Fr.snoc X16 N0 g0
    have Z32 : n0 ≤ h16.size := Nat.le_trans Z2 (Keep.of_wr W16).1
    show own_Goes _ _ _ _ _ _ _ (T16.setTop (mkF m 12 #[.val (.ref x0)] []))
    refine own_Goes.step (fun tq kq => XS.aloadN X16.here hx rfl (hb hby d1_12) rfl rfl kq) ?_
    show own_Goes _ _ _ _ _ _ _ (T16.setTop (mkF m 13 #[.val (.ref x0)] [(.ref x0)]))
    refine own_Goes.step (fun tq kq => XT.bipushV X16.here hx rfl (16 : Int32) (hb hby d1_13) (by decide) kq) ?_
    show own_Goes _ _ _ _ _ _ _ (T16.setTop (mkF m 15 #[.val (.ref x0)] [(.int (16 : Int32)), (.ref x0)]))
    obtain ⟨T33, h33, k33, X33, e33, E33, A33, st33⟩ := newP X16 hx hZ (own_at hw 9 rfl) e16 (g := (mkF m 15 #[.val (.ref x0)] [(.int (16 : Int32)), (.ref x0)])) rfl (hb hby d1_15) rfl (by decide) (cap := 16) (by decide) (by decide) (by decide) (by decide)
    obtain ⟨a33, g33⟩ : ∃ z, z = h16.size := ⟨_, rfl⟩
    rw [← g33] at A33 st33
    have ne34 : x0 ≠ a33 := by rw [g33]; exact Nat.ne_of_lt f17.lt
    have ne35 : a2 ≠ a33 := by rw [g33]; exact Nat.ne_of_lt f29.lt
    have f36 := Jvm.RoadKit.Exa.ext E33 f17
    have f37 := Jvm.RoadKit.Fld.ext E33 f18
    have f38 := Jvm.RoadKit.Fld.ext E33 f19
    have f39 := Jvm.RoadKit.Fld.ext E33 f20
    have f40 := Jvm.RoadKit.Fld.ext E33 f21
    have f41 := Jvm.RoadKit.Fld.ext E33 f22
    have f42 := Jvm.RoadKit.Fld.ext E33 f23
    have f43 := Jvm.RoadKit.Fld.ext E33 f24
    have f44 := Jvm.RoadKit.Fld.ext E33 f25
    have f45 := Jvm.RoadKit.Fld.ext E33 f26
    have f46 := Jvm.RoadKit.Fld.ext E33 f27
    have f47 := Jvm.RoadKit.Fld.ext E33 f28
    have f48 := f29.ext E33
    have r33 : own_Ar Z h33 a33 .long 16 (fun uu => .long ((fun _ => (0 : Int64)) uu)) := own_Ar.new A33
    have ga33 : n0 ≤ a33 := Nat.le_trans Z32 (Nat.le_of_eq g33.symm)
    have Z33 : n0 ≤ h33.size := Nat.le_trans Z32 E33.1
    have K33 := K30.ext E33
    have Kh33 : h0.size ≤ a33 := Nat.le_trans K30.1 (Nat.le_of_eq g33.symm)
    refine own_Goes.step st33 ?_
    show own_Goes _ _ _ _ _ _ _ (T33.setTop (mkF m 17 #[.val (.ref x0)] [(.ref a33), (.ref x0)]))
    obtain ⟨T49, h49, X49, e49, W49, st49⟩ := putF X33 hx hZ hown (host := "") (Or.inl (own_at hw 12 rfl)) Via.refl e33 (v := (.ref a33)) f38 f36 (Or.inl (own_at hw 13 rfl)) (own_at hw 1 rfl) (ty := (.array .long)) (by decide) rfl rfl (g := (mkF m 17 #[.val (.ref x0)] [(.ref a33), (.ref x0)])) rfl rfl (hb hby d1_17)
    refine own_Goes.step st49 ?_
    have f50 := f36.wr W49
    have f51 := f37.other W49 (Or.inr (slot_ne (Or.inl (own_at hw 11 rfl)) (Or.inl (own_at hw 13 rfl)) (by decide) (t := (.array .long)) (t' := (.array .long)) (by decide) (by decide)))
    have f52 := f38.same W49
    have f53 := f39.other W49 (Or.inr (slot_ne (Or.inl (own_at hw 16 rfl)) (Or.inl (own_at hw 13 rfl)) (by decide) (t := (.array .boolean)) (t' := (.array .long)) (by decide) (by decide)))
    have f54 := f40.other W49 (Or.inr (slot_ne (Or.inl (own_at hw 19 rfl)) (Or.inl (own_at hw 13 rfl)) (by decide) (t := (.array .int)) (t' := (.array .long)) (by decide) (by decide)))
    have f55 := f41.other W49 (Or.inr (slot_ne (Or.inl (own_at hw 44 rfl)) (Or.inl (own_at hw 13 rfl)) (by decide) (t := .int) (t' := (.array .long)) (by decide) (by decide)))
    have f56 := f42.other W49 (Or.inr (slot_ne (Or.inl (own_at hw 51 rfl)) (Or.inl (own_at hw 13 rfl)) (by decide) (t := .long) (t' := (.array .long)) (by decide) (by decide)))
    have f57 := f43.other W49 (Or.inr (slot_ne (Or.inl (own_at hw 53 rfl)) (Or.inl (own_at hw 13 rfl)) (by decide) (t := .boolean) (t' := (.array .long)) (by decide) (by decide)))
    have f58 := f44.other W49 (Or.inr (slot_ne (Or.inl (own_at hw 55 rfl)) (Or.inl (own_at hw 13 rfl)) (by decide) (t := .boolean) (t' := (.array .long)) (by decide) (by decide)))
    have f59 := f45.other W49 (Or.inr (slot_ne (Or.inl (own_at hw 62 rfl)) (Or.inl (own_at hw 13 rfl)) (by decide) (t := (.array .int)) (t' := (.array .long)) (by decide) (by decide)))
    have f60 := f46.other W49 (Or.inr (slot_ne (Or.inl (own_at hw 69 rfl)) (Or.inl (own_at hw 13 rfl)) (by decide) (t := .int) (t' := (.array .long)) (by decide) (by decide)))
    have f61 := f47.other W49 (Or.inr (slot_ne (Or.inl (own_at hw 21 rfl)) (Or.inl (own_at hw 13 rfl)) (by decide) (t := .int) (t' := (.array .long)) (by decide) (by decide)))
    have f62 := f48.other W49 (Ne.symm ne3)
    have f63 := r33.other W49 (Ne.symm ne34)
    have K64 := K33.wr W49 (Or.inl (List.mem_of_getElem? (i := 0) rfl))
    have N65 := Fr.snoc X49 N31 g0
    have Z66 : n0 ≤ h49.size := Nat.le_trans Z33 (Keep.of_wr W49).1
    show own_Goes _ _ _ _ _ _ _ (T49.setTop (mkF m 20 #[.val (.ref x0)] []))
    refine own_Goes.step (fun tq kq => XS.aloadN X49.here hx rfl (hb hby d1_20) rfl rfl kq) ?_
    show own_Goes _ _ _ _ _ _ _ (T49.setTop (mkF m 21 #[.val (.ref x0)] [(.ref x0)]))
    refine own_Goes.step (fun tq kq => XT.bipushV X49.here hx rfl (16 : Int32) (hb hby d1_21) (by decide) kq) ?_
    show own_Goes _ _ _ _ _ _ _ (T49.setTop (mkF m 23 #[.val (.ref x0)] [(.int (16 : Int32)), (.ref x0)]))
    obtain ⟨T67, h67, k67, X67, e67, E67, A67, st67⟩ := newP X49 hx hZ (own_at hw 14 rfl) e49 (g := (mkF m 23 #[.val (.ref x0)] [(.int (16 : Int32)), (.ref x0)])) rfl (hb hby d1_23) rfl (by decide) (cap := 16) (by decide) (by decide) (by decide) (by decide)
    obtain ⟨a67, g67⟩ : ∃ z, z = h49.size := ⟨_, rfl⟩
    rw [← g67] at A67 st67
    have ne68 : x0 ≠ a67 := by rw [g67]; exact Nat.ne_of_lt f50.lt
    have ne69 : a2 ≠ a67 := by rw [g67]; exact Nat.ne_of_lt f62.lt
    have ne70 : a33 ≠ a67 := by rw [g67]; exact Nat.ne_of_lt f63.lt
    have f71 := Jvm.RoadKit.Exa.ext E67 f50
    have f72 := Jvm.RoadKit.Fld.ext E67 f51
    have f73 := Jvm.RoadKit.Fld.ext E67 f52
    have f74 := Jvm.RoadKit.Fld.ext E67 f53
    have f75 := Jvm.RoadKit.Fld.ext E67 f54
    have f76 := Jvm.RoadKit.Fld.ext E67 f55
    have f77 := Jvm.RoadKit.Fld.ext E67 f56
    have f78 := Jvm.RoadKit.Fld.ext E67 f57
    have f79 := Jvm.RoadKit.Fld.ext E67 f58
    have f80 := Jvm.RoadKit.Fld.ext E67 f59
    have f81 := Jvm.RoadKit.Fld.ext E67 f60
    have f82 := Jvm.RoadKit.Fld.ext E67 f61
    have f83 := f62.ext E67
    have f84 := f63.ext E67
    have r67 : own_Ar Z h67 a67 .boolean 16 (fun uu => .int ((fun _ => (0 : Int32)) uu)) := own_Ar.new A67
    have ga67 : n0 ≤ a67 := Nat.le_trans Z66 (Nat.le_of_eq g67.symm)
    have Z67 : n0 ≤ h67.size := Nat.le_trans Z66 E67.1
    have K67 := K64.ext E67
    have Kh67 : h0.size ≤ a67 := Nat.le_trans K64.1 (Nat.le_of_eq g67.symm)
    refine own_Goes.step st67 ?_
    show own_Goes _ _ _ _ _ _ _ (T67.setTop (mkF m 25 #[.val (.ref x0)] [(.ref a67), (.ref x0)]))
    obtain ⟨T85, h85, X85, e85, W85, st85⟩ := putF X67 hx hZ hown (host := "") (Or.inl (own_at hw 15 rfl)) Via.refl e67 (v := (.ref a67)) f74 f71 (Or.inl (own_at hw 16 rfl)) (own_at hw 1 rfl) (ty := (.array .boolean)) (by decide) rfl rfl (g := (mkF m 25 #[.val (.ref x0)] [(.ref a67), (.ref x0)])) rfl rfl (hb hby d1_25)
    refine own_Goes.step st85 ?_
    have f86 := f71.wr W85
    have f87 := f72.other W85 (Or.inr (slot_ne (Or.inl (own_at hw 11 rfl)) (Or.inl (own_at hw 16 rfl)) (by decide) (t := (.array .long)) (t' := (.array .boolean)) (by decide) (by decide)))
    have f88 := f73.other W85 (Or.inr (slot_ne (Or.inl (own_at hw 13 rfl)) (Or.inl (own_at hw 16 rfl)) (by decide) (t := (.array .long)) (t' := (.array .boolean)) (by decide) (by decide)))
    have f89 := f74.same W85
    have f90 := f75.other W85 (Or.inr (slot_ne (Or.inl (own_at hw 19 rfl)) (Or.inl (own_at hw 16 rfl)) (by decide) (t := (.array .int)) (t' := (.array .boolean)) (by decide) (by decide)))
    have f91 := f76.other W85 (Or.inr (slot_ne (Or.inl (own_at hw 44 rfl)) (Or.inl (own_at hw 16 rfl)) (by decide) (t := .int) (t' := (.array .boolean)) (by decide) (by decide)))
    have f92 := f77.other W85 (Or.inr (slot_ne (Or.inl (own_at hw 51 rfl)) (Or.inl (own_at hw 16 rfl)) (by decide) (t := .long) (t' := (.array .boolean)) (by decide) (by decide)))
    have f93 := f78.other W85 (Or.inr (slot_ne (Or.inl (own_at hw 53 rfl)) (Or.inl (own_at hw 16 rfl)) (by decide) (t := .boolean) (t' := (.array .boolean)) (by decide) (by decide)))
    have f94 := f79.other W85 (Or.inr (slot_ne (Or.inl (own_at hw 55 rfl)) (Or.inl (own_at hw 16 rfl)) (by decide) (t := .boolean) (t' := (.array .boolean)) (by decide) (by decide)))
    have f95 := f80.other W85 (Or.inr (slot_ne (Or.inl (own_at hw 62 rfl)) (Or.inl (own_at hw 16 rfl)) (by decide) (t := (.array .int)) (t' := (.array .boolean)) (by decide) (by decide)))
    have f96 := f81.other W85 (Or.inr (slot_ne (Or.inl (own_at hw 69 rfl)) (Or.inl (own_at hw 16 rfl)) (by decide) (t := .int) (t' := (.array .boolean)) (by decide) (by decide)))
    have f97 := f82.other W85 (Or.inr (slot_ne (Or.inl (own_at hw 21 rfl)) (Or.inl (own_at hw 16 rfl)) (by decide) (t := .int) (t' := (.array .boolean)) (by decide) (by decide)))
    have f98 := f83.other W85 (Ne.symm ne3)
    have f99 := f84.other W85 (Ne.symm ne34)
    have f100 := r67.other W85 (Ne.symm ne68)
    have K101 := K67.wr W85 (Or.inl (List.mem_of_getElem? (i := 0) rfl))
    have N102 := Fr.snoc X85 N65 g0
    have Z103 : n0 ≤ h85.size := Nat.le_trans Z67 (Keep.of_wr W85).1
    show own_Goes _ _ _ _ _ _ _ (T85.setTop (mkF m 28 #[.val (.ref x0)] []))
    refine own_Goes.step (fun tq kq => XS.aloadN X85.here hx rfl (hb hby d1_28) rfl rfl kq) ?_
    show own_Goes _ _ _ _ _ _ _ (T85.setTop (mkF m 29 #[.val (.ref x0)] [(.ref x0)]))
    refine own_Goes.step (fun tq kq => XT.iconstV X85.here hx rfl (0 : Int32) (hb hby d1_29) (by decide) kq) ?_
    show own_Goes _ _ _ _ _ _ _ (T85.setTop (mkF m 30 #[.val (.ref x0)] [(.int (0 : Int32)), (.ref x0)]))
    obtain ⟨T104, h104, k104, X104, e104, E104, A104, st104⟩ := newP X85 hx hZ (own_at hw 17 rfl) e85 (g := (mkF m 30 #[.val (.ref x0)] [(.int (0 : Int32)), (.ref x0)])) rfl (hb hby d1_30) rfl (by decide) (cap := 0) (by decide) (by decide) (by decide) (by decide)
    obtain ⟨a104, g104⟩ : ∃ z, z = h85.size := ⟨_, rfl⟩
    rw [← g104] at A104 st104
    have ne105 : x0 ≠ a104 := by rw [g104]; exact Nat.ne_of_lt f86.lt
    have ne106 : a2 ≠ a104 := by rw [g104]; exact Nat.ne_of_lt f98.lt
    have ne107 : a33 ≠ a104 := by rw [g104]; exact Nat.ne_of_lt f99.lt
    have ne108 : a67 ≠ a104 := by rw [g104]; exact Nat.ne_of_lt f100.lt
    have f109 := Jvm.RoadKit.Exa.ext E104 f86
    have f110 := Jvm.RoadKit.Fld.ext E104 f87
    have f111 := Jvm.RoadKit.Fld.ext E104 f88
    have f112 := Jvm.RoadKit.Fld.ext E104 f89
    have f113 := Jvm.RoadKit.Fld.ext E104 f90
    have f114 := Jvm.RoadKit.Fld.ext E104 f91
    have f115 := Jvm.RoadKit.Fld.ext E104 f92
    have f116 := Jvm.RoadKit.Fld.ext E104 f93
    have f117 := Jvm.RoadKit.Fld.ext E104 f94
    have f118 := Jvm.RoadKit.Fld.ext E104 f95
    have f119 := Jvm.RoadKit.Fld.ext E104 f96
    have f120 := Jvm.RoadKit.Fld.ext E104 f97
    have f121 := f98.ext E104
    have f122 := f99.ext E104
    have f123 := f100.ext E104
    have r104 : own_Ar Z h104 a104 .int 0 (fun uu => .int ((fun _ => (0 : Int32)) uu)) := own_Ar.new A104
    have ga104 : n0 ≤ a104 := Nat.le_trans Z103 (Nat.le_of_eq g104.symm)
    have Z104 : n0 ≤ h104.size := Nat.le_trans Z103 E104.1
    have K104 := K101.ext E104
    have Kh104 : h0.size ≤ a104 := Nat.le_trans K101.1 (Nat.le_of_eq g104.symm)
    refine own_Goes.step st104 ?_
    show own_Goes _ _ _ _ _ _ _ (T104.setTop (mkF m 32 #[.val (.ref x0)] [(.ref a104), (.ref x0)]))
    obtain ⟨T124, h124, X124, e124, W124, st124⟩ := putF X104 hx hZ hown (host := "") (Or.inl (own_at hw 18 rfl)) Via.refl e104 (v := (.ref a104)) f113 f109 (Or.inl (own_at hw 19 rfl)) (own_at hw 1 rfl) (ty := (.array .int)) (by decide) rfl rfl (g := (mkF m 32 #[.val (.ref x0)] [(.ref a104), (.ref x0)])) rfl rfl (hb hby d1_32)
    refine own_Goes.step st124 ?_
    have f125 := f109.wr W124
    have f126 := f110.other W124 (Or.inr (slot_ne (Or.inl (own_at hw 11 rfl)) (Or.inl (own_at hw 19 rfl)) (by decide) (t := (.array .long)) (t' := (.array .int)) (by decide) (by decide)))
    have f127 := f111.other W124 (Or.inr (slot_ne (Or.inl (own_at hw 13 rfl)) (Or.inl (own_at hw 19 rfl)) (by decide) (t := (.array .long)) (t' := (.array .int)) (by decide) (by decide)))
    have f128 := f112.other W124 (Or.inr (slot_ne (Or.inl (own_at hw 16 rfl)) (Or.inl (own_at hw 19 rfl)) (by decide) (t := (.array .boolean)) (t' := (.array .int)) (by decide) (by decide)))
    have f129 := f113.same W124
    have f130 := f114.other W124 (Or.inr (slot_ne (Or.inl (own_at hw 44 rfl)) (Or.inl (own_at hw 19 rfl)) (by decide) (t := .int) (t' := (.array .int)) (by decide) (by decide)))
    have f131 := f115.other W124 (Or.inr (slot_ne (Or.inl (own_at hw 51 rfl)) (Or.inl (own_at hw 19 rfl)) (by decide) (t := .long) (t' := (.array .int)) (by decide) (by decide)))
    have f132 := f116.other W124 (Or.inr (slot_ne (Or.inl (own_at hw 53 rfl)) (Or.inl (own_at hw 19 rfl)) (by decide) (t := .boolean) (t' := (.array .int)) (by decide) (by decide)))
    have f133 := f117.other W124 (Or.inr (slot_ne (Or.inl (own_at hw 55 rfl)) (Or.inl (own_at hw 19 rfl)) (by decide) (t := .boolean) (t' := (.array .int)) (by decide) (by decide)))
    have f134 := f118.other W124 (Or.inr (slot_ne (Or.inl (own_at hw 62 rfl)) (Or.inl (own_at hw 19 rfl)) (by decide) (t := (.array .int)) (t' := (.array .int)) (by decide) (by decide)))
    have f135 := f119.other W124 (Or.inr (slot_ne (Or.inl (own_at hw 69 rfl)) (Or.inl (own_at hw 19 rfl)) (by decide) (t := .int) (t' := (.array .int)) (by decide) (by decide)))
    have f136 := f120.other W124 (Or.inr (slot_ne (Or.inl (own_at hw 21 rfl)) (Or.inl (own_at hw 19 rfl)) (by decide) (t := .int) (t' := (.array .int)) (by decide) (by decide)))
    have f137 := f121.other W124 (Ne.symm ne3)
    have f138 := f122.other W124 (Ne.symm ne34)
    have f139 := f123.other W124 (Ne.symm ne68)
    have f140 := r104.other W124 (Ne.symm ne105)
    have K141 := K104.wr W124 (Or.inl (List.mem_of_getElem? (i := 0) rfl))
    have N142 := Fr.snoc X124 N102 g0
    have Z143 : n0 ≤ h124.size := Nat.le_trans Z104 (Keep.of_wr W124).1
    show own_Goes _ _ _ _ _ _ _ (T124.setTop (mkF m 35 #[.val (.ref x0)] []))
    refine own_Goes.step (fun tq kq => XS.aloadN X124.here hx rfl (hb hby d1_35) rfl rfl kq) ?_
    show own_Goes _ _ _ _ _ _ _ (T124.setTop (mkF m 36 #[.val (.ref x0)] [(.ref x0)]))
    refine own_Goes.step (fun tq kq => XT.iconstV X124.here hx rfl (-1 : Int32) (hb hby d1_36) (by decide) kq) ?_
    show own_Goes _ _ _ _ _ _ _ (T124.setTop (mkF m 37 #[.val (.ref x0)] [(.int (-1 : Int32)), (.ref x0)]))
    obtain ⟨T144, h144, X144, e144, W144, st144⟩ := putF X124 hx hZ hown (host := "") (Or.inl (own_at hw 20 rfl)) Via.refl e124 (v := (.int (-1 : Int32))) f136 f125 (Or.inl (own_at hw 21 rfl)) (own_at hw 1 rfl) (ty := .int) (by decide) rfl rfl (g := (mkF m 37 #[.val (.ref x0)] [(.int (-1 : Int32)), (.ref x0)])) rfl rfl (hb hby d1_37)
    refine own_Goes.step st144 ?_
    have f145 := f125.wr W144
    have f146 := f126.other W144 (Or.inr (slot_ne (Or.inl (own_at hw 11 rfl)) (Or.inl (own_at hw 21 rfl)) (by decide) (t := (.array .long)) (t' := .int) (by decide) (by decide)))
    have f147 := f127.other W144 (Or.inr (slot_ne (Or.inl (own_at hw 13 rfl)) (Or.inl (own_at hw 21 rfl)) (by decide) (t := (.array .long)) (t' := .int) (by decide) (by decide)))
    have f148 := f128.other W144 (Or.inr (slot_ne (Or.inl (own_at hw 16 rfl)) (Or.inl (own_at hw 21 rfl)) (by decide) (t := (.array .boolean)) (t' := .int) (by decide) (by decide)))
    have f149 := f129.other W144 (Or.inr (slot_ne (Or.inl (own_at hw 19 rfl)) (Or.inl (own_at hw 21 rfl)) (by decide) (t := (.array .int)) (t' := .int) (by decide) (by decide)))
    have f150 := f130.other W144 (Or.inr (slot_ne (Or.inl (own_at hw 44 rfl)) (Or.inl (own_at hw 21 rfl)) (by decide) (t := .int) (t' := .int) (by decide) (by decide)))
    have f151 := f131.other W144 (Or.inr (slot_ne (Or.inl (own_at hw 51 rfl)) (Or.inl (own_at hw 21 rfl)) (by decide) (t := .long) (t' := .int) (by decide) (by decide)))
    have f152 := f132.other W144 (Or.inr (slot_ne (Or.inl (own_at hw 53 rfl)) (Or.inl (own_at hw 21 rfl)) (by decide) (t := .boolean) (t' := .int) (by decide) (by decide)))
    have f153 := f133.other W144 (Or.inr (slot_ne (Or.inl (own_at hw 55 rfl)) (Or.inl (own_at hw 21 rfl)) (by decide) (t := .boolean) (t' := .int) (by decide) (by decide)))
    have f154 := f134.other W144 (Or.inr (slot_ne (Or.inl (own_at hw 62 rfl)) (Or.inl (own_at hw 21 rfl)) (by decide) (t := (.array .int)) (t' := .int) (by decide) (by decide)))
    have f155 := f135.other W144 (Or.inr (slot_ne (Or.inl (own_at hw 69 rfl)) (Or.inl (own_at hw 21 rfl)) (by decide) (t := .int) (t' := .int) (by decide) (by decide)))
    have f156 := f136.same W144
    have f157 := f137.other W144 (Ne.symm ne3)
    have f158 := f138.other W144 (Ne.symm ne34)
    have f159 := f139.other W144 (Ne.symm ne68)
    have f160 := f140.other W144 (Ne.symm ne105)
    have K161 := K141.wr W144 (Or.inl (List.mem_of_getElem? (i := 0) rfl))
    have N162 := Fr.snoc X144 N142 g0
    have Z163 : n0 ≤ h144.size := Nat.le_trans Z143 (Keep.of_wr W144).1
    show own_Goes _ _ _ _ _ _ _ (T144.setTop (mkF m 40 #[.val (.ref x0)] []))
    refine own_endV X144 hx Bd.notSynchronized Bd.returns (hb hby d1_40) ?_ (by decide) (by decide)
    show own_F1 Z x0 n0 h0 _ T144.heap _
    rw [e144]
    exact ⟨rfl, N162, K161, a2, a33, a67, a104, Kh2, Kh33, Kh67, Kh104, ⟨f145, f146, f147, f148, f149, f150, f151, f152, f153, f154, f155, f156, f157, f158, f159, f160, ne3, ne34, ne68, ne105, ne35, ne69, ne106, ne70, ne107, ne108, g0, ga2, ga33, ga67, Or.inl rfl, Or.inl rfl⟩⟩
  obtain ⟨t2, o2, q1, q2, q3, q4⟩ := hgo
  exact ⟨t2, o2, castTop (ef_1 m x0) q1, q2, q3, q4⟩
theorem d8_0 : decode prog_67_method_7_code 0 = .ok (.aload_n 0, 1) := by decide +kernel
theorem d8_1 : decode prog_67_method_7_code 1 = .ok (.iconst 0, 1) := by decide +kernel
theorem d8_2 : decode prog_67_method_7_code 2 = .ok (.putfield 28, 3) := by decide +kernel
theorem d8_5 : decode prog_67_method_7_code 5 = .ok (.aload_n 0, 1) := by decide +kernel
theorem d8_6 : decode prog_67_method_7_code 6 = .ok (.aconst_null, 1) := by decide +kernel
theorem d8_7 : decode prog_67_method_7_code 7 = .ok (.putfield 55, 3) := by decide +kernel
theorem d8_10 : decode prog_67_method_7_code 10 = .ok (.aload_n 0, 1) := by decide +kernel
theorem d8_11 : decode prog_67_method_7_code 11 = .ok (.iconst 0, 1) := by decide +kernel
theorem d8_12 : decode prog_67_method_7_code 12 = .ok (.putfield 62, 3) := by decide +kernel
theorem d8_15 : decode prog_67_method_7_code 15 = .ok (.return_, 1) := by decide +kernel
theorem pn_8 : plainName "com/example/strati/strati/sim/WriteBuffer" = true := by first | (simp [plainName, overriddenIn]; done) | decide +kernel
theorem pd_8 : parseMethodDescriptor "()V" = some ⟨[], none⟩ := by decide +kernel
theorem ef_8 (m : MethodId) (x0 : Addr) : entryFrame m #[(.ref x0)] 1 = mkF m 0 #[.val (.ref x0)] [] := by first | (simp [entryFrame, mkF, argsToLocals, Value.category]; done) | rfl
def own_F8 (Z : State) (x0 : Addr) (kA sA dA pA : Addr) (K Sz : Nat → Int64) (D : Nat → Int32) (cnt : Nat) (fs : Int64) (mx am la : Int32) (ix : Int32) (sv : Value) (n0 : Nat) (h0 : Heap) (v : Option Value) (h : Heap) (L : List Loc) : Prop := v = none ∧ Fr n0 L ∧ Keep h0 h [x0] ∧ own_W Z h n0 x0 kA sA dA pA .null K Sz D 0 fs mx am 0 la
set_option maxRecDepth 65536 in
set_option maxHeartbeats 40000000 in
theorem own_m8 (l : Launch) (Z : State) (a0 : Array Value) (hw : ∀ d ∈ tables_1, d.before a0 Z = true) (ws : List Jvm.Cond) (x0 : Addr) (kA sA dA pA : Addr) (K Sz : Nat → Int64) (D : Nat → Int32) (cnt : Nat) (fs : Int64) (mx am la : Int32) (ix : Int32) (sv : Value) (n0 : Nat) (h0 : Heap)  (B : own_W Z h0 n0 x0 kA sA dA pA sv K Sz D cnt fs mx am ix la) :
    MetFree l (⟨"com/example/strati/strati/sim/WriteBuffer", "clear", "()V"⟩ : MethodName) (head1 (Jvm.Cond.code (⟨"com/example/strati/strati/sim/WriteBuffer", "clear", "()V"⟩ : MethodName) prog_67_method_7_code 1 none :: ws) ({ frames := 0, cells := 0, slots := 0, locals := 0 } : Room)) (fun a U => a = #[(.ref x0)] ∧ Z.Warmed39 U.vm ∧ U.heap = h0) (fun _ _ _ _ _ => True) (fun _ U o U' => ∃ v L, o = .returned v ∧ own_F8 Z x0 kA sA dA pA K Sz D cnt fs mx am la ix sv n0 h0 v U'.heap L ∧ FrameEnd U o U' L ({ frames := 0, cells := 0, slots := 0, locals := 0 } : Room).cells ({ frames := 0, cells := 0, slots := 0, locals := 0 } : Room).slots) := by
  refine MetFree.of_bodySF (plainFor_of_name pn_8) hisR ?_
  intro p e s m args below meth c s₁ Bd hml0 hP hK
  obtain ⟨rfl, hZ, hh⟩ := hP
  have hx := Bd.exec
  have hby := Bd.bytes
  have hml : c.maxLocals = 1 := hml0
  have hown : s.vm.findClass "com/example/strati/strati/sim/WriteBuffer" = some m.cls := findClass_of_methodNamed Bd.named
  have hnm := (name_of_methodNamed Bd.named Bd.method).1
  have X0 : Stand p l e ({ frames := 0, cells := 0, slots := 0, locals := 0 } : Room) s m #[(.ref x0)] below meth c s₁ [] 0 0 := Stand.of_body Bd
  have e0 : s₁.heap = h0 := by rw [← hh, Bd.state]; rfl
  obtain ⟨E0, P0, P1, P2, P3, P4, P5, P6, P7, P8, P9, P10, R0, R1, R2, R3, n1, n2, n3, n4, n5, n6, n7, n8, n9, n10, gw0, gw1, gw2, gw3, hmx, ham⟩ := B
  have Z0 : n0 ≤ h0.size := Nat.le_trans gw0 (Nat.le_of_lt E0.lt)
  have N0 := Fr.nil n0
  have K0 : Keep h0 h0 [x0] := Keep.refl h0 [x0]
  have hgo : own_Goes p e below s (own_F8 Z x0 kA sA dA pA K Sz D cnt fs mx am la ix sv n0 h0) 0 0 (s₁.setTop (mkF m 0 #[.val (.ref x0)] [])) := by
    refine own_Goes.step (fun tq kq => XS.aloadN X0.here hx rfl (hb hby d8_0) rfl rfl kq) ?_
    show own_Goes _ _ _ _ _ _ _ (s₁.setTop (mkF m 1 #[.val (.ref x0)] [(.ref x0)]))
    refine own_Goes.step (fun tq kq => XT.iconstV X0.here hx rfl (0 : Int32) (hb hby d8_1) (by decide) kq) ?_
    show own_Goes _ _ _ _ _ _ _ (s₁.setTop (mkF m 2 #[.val (.ref x0)] [(.int (0 : Int32)), (.ref x0)]))
    obtain ⟨T1, h1, X1, e1, W1, st1⟩ := putF X0 hx hZ hown (host := "") (Or.inl (own_at hw 43 rfl)) Via.refl e0 (v := (.int (0 : Int32))) P4 E0 (Or.inl (own_at hw 44 rfl)) (own_at hw 1 rfl) (ty := .int) (by decide) rfl rfl (g := (mkF m 2 #[.val (.ref x0)] [(.int (0 : Int32)), (.ref x0)])) rfl rfl (hb hby d8_2)
    refine own_Goes.step st1 ?_
    have f2 := E0.wr W1
    have f3 := P0.other W1 (Or.inr (slot_ne (Or.inl (own_at hw 11 rfl)) (Or.inl (own_at hw 44 rfl)) (by decide) (t := (.array .long)) (t' := .int) (by decide) (by decide)))
    have f4 := P1.other W1 (Or.inr (slot_ne (Or.inl (own_at hw 13 rfl)) (Or.inl (own_at hw 44 rfl)) (by decide) (t := (.array .long)) (t' := .int) (by decide) (by decide)))
    have f5 := P2.other W1 (Or.inr (slot_ne (Or.inl (own_at hw 16 rfl)) (Or.inl (own_at hw 44 rfl)) (by decide) (t := (.array .boolean)) (t' := .int) (by decide) (by decide)))
    have f6 := P3.other W1 (Or.inr (slot_ne (Or.inl (own_at hw 19 rfl)) (Or.inl (own_at hw 44 rfl)) (by decide) (t := (.array .int)) (t' := .int) (by decide) (by decide)))
    have f7 := P4.same W1
    have f8 := P5.other W1 (Or.inr (slot_ne (Or.inl (own_at hw 51 rfl)) (Or.inl (own_at hw 44 rfl)) (by decide) (t := .long) (t' := .int) (by decide) (by decide)))
    have f9 := P6.other W1 (Or.inr (slot_ne (Or.inl (own_at hw 53 rfl)) (Or.inl (own_at hw 44 rfl)) (by decide) (t := .boolean) (t' := .int) (by decide) (by decide)))
    have f10 := P7.other W1 (Or.inr (slot_ne (Or.inl (own_at hw 55 rfl)) (Or.inl (own_at hw 44 rfl)) (by decide) (t := .boolean) (t' := .int) (by decide) (by decide)))
    have f11 := P8.other W1 (Or.inr (slot_ne (Or.inl (own_at hw 62 rfl)) (Or.inl (own_at hw 44 rfl)) (by decide) (t := (.array .int)) (t' := .int) (by decide) (by decide)))
    have f12 := P9.other W1 (Or.inr (slot_ne (Or.inl (own_at hw 69 rfl)) (Or.inl (own_at hw 44 rfl)) (by decide) (t := .int) (t' := .int) (by decide) (by decide)))
    have f13 := P10.other W1 (Or.inr (slot_ne (Or.inl (own_at hw 21 rfl)) (Or.inl (own_at hw 44 rfl)) (by decide) (t := .int) (t' := .int) (by decide) (by decide)))
    have f14 := R0.other W1 (Ne.symm n1)
    have f15 := R1.other W1 (Ne.symm n2)
    have f16 := R2.other W1 (Ne.symm n3)
    have f17 := R3.other W1 (Ne.symm n4)
    have K18 := K0.wr W1 (Or.inl (List.mem_of_getElem? (i := 0) rfl))
    have N19 := Fr.snoc X1 N0 gw0
    have Z20 : n0 ≤ h1.size := Nat.le_trans Z0 (Keep.of_wr W1).1
    show own_Goes _ _ _ _ _ _ _ (T1.setTop (mkF m 5 #[.val (.ref x0)] []))
    refine own_Goes.step (fun tq kq => XS.aloadN X1.here hx rfl (hb hby d8_5) rfl rfl kq) ?_
    show own_Goes _ _ _ _ _ _ _ (T1.setTop (mkF m 6 #[.val (.ref x0)] [(.ref x0)]))
    refine own_Goes.step (fun tq kq => XS.aconstNull X1.here hx rfl (hb hby d8_6) kq) ?_
    show own_Goes _ _ _ _ _ _ _ (T1.setTop (mkF m 7 #[.val (.ref x0)] [.null, (.ref x0)]))
    obtain ⟨T21, h21, X21, e21, W21, st21⟩ := putF X1 hx hZ hown (host := "") (Or.inl (own_at hw 61 rfl)) Via.refl e1 (v := .null) f11 f2 (Or.inl (own_at hw 62 rfl)) (own_at hw 1 rfl) (ty := (.array .int)) (by decide) rfl rfl (g := (mkF m 7 #[.val (.ref x0)] [.null, (.ref x0)])) rfl rfl (hb hby d8_7)
    refine own_Goes.step st21 ?_
    have f22 := f2.wr W21
    have f23 := f3.other W21 (Or.inr (slot_ne (Or.inl (own_at hw 11 rfl)) (Or.inl (own_at hw 62 rfl)) (by decide) (t := (.array .long)) (t' := (.array .int)) (by decide) (by decide)))
    have f24 := f4.other W21 (Or.inr (slot_ne (Or.inl (own_at hw 13 rfl)) (Or.inl (own_at hw 62 rfl)) (by decide) (t := (.array .long)) (t' := (.array .int)) (by decide) (by decide)))
    have f25 := f5.other W21 (Or.inr (slot_ne (Or.inl (own_at hw 16 rfl)) (Or.inl (own_at hw 62 rfl)) (by decide) (t := (.array .boolean)) (t' := (.array .int)) (by decide) (by decide)))
    have f26 := f6.other W21 (Or.inr (slot_ne (Or.inl (own_at hw 19 rfl)) (Or.inl (own_at hw 62 rfl)) (by decide) (t := (.array .int)) (t' := (.array .int)) (by decide) (by decide)))
    have f27 := f7.other W21 (Or.inr (slot_ne (Or.inl (own_at hw 44 rfl)) (Or.inl (own_at hw 62 rfl)) (by decide) (t := .int) (t' := (.array .int)) (by decide) (by decide)))
    have f28 := f8.other W21 (Or.inr (slot_ne (Or.inl (own_at hw 51 rfl)) (Or.inl (own_at hw 62 rfl)) (by decide) (t := .long) (t' := (.array .int)) (by decide) (by decide)))
    have f29 := f9.other W21 (Or.inr (slot_ne (Or.inl (own_at hw 53 rfl)) (Or.inl (own_at hw 62 rfl)) (by decide) (t := .boolean) (t' := (.array .int)) (by decide) (by decide)))
    have f30 := f10.other W21 (Or.inr (slot_ne (Or.inl (own_at hw 55 rfl)) (Or.inl (own_at hw 62 rfl)) (by decide) (t := .boolean) (t' := (.array .int)) (by decide) (by decide)))
    have f31 := f11.same W21
    have f32 := f12.other W21 (Or.inr (slot_ne (Or.inl (own_at hw 69 rfl)) (Or.inl (own_at hw 62 rfl)) (by decide) (t := .int) (t' := (.array .int)) (by decide) (by decide)))
    have f33 := f13.other W21 (Or.inr (slot_ne (Or.inl (own_at hw 21 rfl)) (Or.inl (own_at hw 62 rfl)) (by decide) (t := .int) (t' := (.array .int)) (by decide) (by decide)))
    have f34 := f14.other W21 (Ne.symm n1)
    have f35 := f15.other W21 (Ne.symm n2)
    have f36 := f16.other W21 (Ne.symm n3)
    have f37 := f17.other W21 (Ne.symm n4)
    have K38 := K18.wr W21 (Or.inl (List.mem_of_getElem? (i := 0) rfl))
    have N39 := Fr.snoc X21 N19 gw0
    have Z40 : n0 ≤ h21.size := Nat.le_trans Z20 (Keep.of_wr W21).1
    show own_Goes _ _ _ _ _ _ _ (T21.setTop (mkF m 10 #[.val (.ref x0)] []))
    refine own_Goes.step (fun tq kq => XS.aloadN X21.here hx rfl (hb hby d8_10) rfl rfl kq) ?_
    show own_Goes _ _ _ _ _ _ _ (T21.setTop (mkF m 11 #[.val (.ref x0)] [(.ref x0)]))
    refine own_Goes.step (fun tq kq => XT.iconstV X21.here hx rfl (0 : Int32) (hb hby d8_11) (by decide) kq) ?_
    show own_Goes _ _ _ _ _ _ _ (T21.setTop (mkF m 12 #[.val (.ref x0)] [(.int (0 : Int32)), (.ref x0)]))
    obtain ⟨T41, h41, X41, e41, W41, st41⟩ := putF X21 hx hZ hown (host := "") (Or.inl (own_at hw 68 rfl)) Via.refl e21 (v := (.int (0 : Int32))) f32 f22 (Or.inl (own_at hw 69 rfl)) (own_at hw 1 rfl) (ty := .int) (by decide) rfl rfl (g := (mkF m 12 #[.val (.ref x0)] [(.int (0 : Int32)), (.ref x0)])) rfl rfl (hb hby d8_12)
    refine own_Goes.step st41 ?_
    have f42 := f22.wr W41
    have f43 := f23.other W41 (Or.inr (slot_ne (Or.inl (own_at hw 11 rfl)) (Or.inl (own_at hw 69 rfl)) (by decide) (t := (.array .long)) (t' := .int) (by decide) (by decide)))
    have f44 := f24.other W41 (Or.inr (slot_ne (Or.inl (own_at hw 13 rfl)) (Or.inl (own_at hw 69 rfl)) (by decide) (t := (.array .long)) (t' := .int) (by decide) (by decide)))
    have f45 := f25.other W41 (Or.inr (slot_ne (Or.inl (own_at hw 16 rfl)) (Or.inl (own_at hw 69 rfl)) (by decide) (t := (.array .boolean)) (t' := .int) (by decide) (by decide)))
    have f46 := f26.other W41 (Or.inr (slot_ne (Or.inl (own_at hw 19 rfl)) (Or.inl (own_at hw 69 rfl)) (by decide) (t := (.array .int)) (t' := .int) (by decide) (by decide)))
    have f47 := f27.other W41 (Or.inr (slot_ne (Or.inl (own_at hw 44 rfl)) (Or.inl (own_at hw 69 rfl)) (by decide) (t := .int) (t' := .int) (by decide) (by decide)))
    have f48 := f28.other W41 (Or.inr (slot_ne (Or.inl (own_at hw 51 rfl)) (Or.inl (own_at hw 69 rfl)) (by decide) (t := .long) (t' := .int) (by decide) (by decide)))
    have f49 := f29.other W41 (Or.inr (slot_ne (Or.inl (own_at hw 53 rfl)) (Or.inl (own_at hw 69 rfl)) (by decide) (t := .boolean) (t' := .int) (by decide) (by decide)))
    have f50 := f30.other W41 (Or.inr (slot_ne (Or.inl (own_at hw 55 rfl)) (Or.inl (own_at hw 69 rfl)) (by decide) (t := .boolean) (t' := .int) (by decide) (by decide)))
    have f51 := f31.other W41 (Or.inr (slot_ne (Or.inl (own_at hw 62 rfl)) (Or.inl (own_at hw 69 rfl)) (by decide) (t := (.array .int)) (t' := .int) (by decide) (by decide)))
    have f52 := f32.same W41
    have f53 := f33.other W41 (Or.inr (slot_ne (Or.inl (own_at hw 21 rfl)) (Or.inl (own_at hw 69 rfl)) (by decide) (t := .int) (t' := .int) (by decide) (by decide)))
    have f54 := f34.other W41 (Ne.symm n1)
    have f55 := f35.other W41 (Ne.symm n2)
    have f56 := f36.other W41 (Ne.symm n3)
    have f57 := f37.other W41 (Ne.symm n4)
    have K58 := K38.wr W41 (Or.inl (List.mem_of_getElem? (i := 0) rfl))
    have N59 := Fr.snoc X41 N39 gw0
    have Z60 : n0 ≤ h41.size := Nat.le_trans Z40 (Keep.of_wr W41).1
    show own_Goes _ _ _ _ _ _ _ (T41.setTop (mkF m 15 #[.val (.ref x0)] []))
    refine own_endV X41 hx Bd.notSynchronized Bd.returns (hb hby d8_15) ?_ (by decide) (by decide)
    show own_F8 Z x0 kA sA dA pA K Sz D cnt fs mx am la ix sv n0 h0 _ T41.heap _
    rw [e41]
    exact ⟨rfl, N59, K58, ⟨f42, f43, f44, f45, f46, f47, f48, f49, f50, f51, f52, f53, f54, f55, f56, f57, n1, n2, n3, n4, n5, n6, n7, n8, n9, n10, gw0, gw1, gw2, gw3, hmx, ham⟩⟩
  obtain ⟨t2, o2, q1, q2, q3, q4⟩ := hgo
  exact ⟨t2, o2, castTop (ef_8 m x0) q1, q2, q3, q4⟩
theorem d19_0 : decode jdk_33_method_47_code 0 = .ok (.iload_n 0, 1) := by decide +kernel
theorem d19_1 : decode jdk_33_method_47_code 1 = .ok (.ifCond .gt 14, 3) := by decide +kernel
theorem d19_4 : decode jdk_33_method_47_code 4 = .ok (.iload_n 0, 1) := by decide +kernel
theorem d19_5 : decode jdk_33_method_47_code 5 = .ok (.ifCond .ne 8, 3) := by decide +kernel
theorem d19_8 : decode jdk_33_method_47_code 8 = .ok (.bipush 32, 2) := by decide +kernel
theorem d19_10 : decode jdk_33_method_47_code 10 = .ok (.goto 4, 3) := by decide +kernel
theorem d19_13 : decode jdk_33_method_47_code 13 = .ok (.iconst 0, 1) := by decide +kernel
theorem d19_14 : decode jdk_33_method_47_code 14 = .ok (.ireturn, 1) := by decide +kernel
theorem d19_15 : decode jdk_33_method_47_code 15 = .ok (.bipush 31, 2) := by decide +kernel
theorem d19_17 : decode jdk_33_method_47_code 17 = .ok (.istore_n 1, 1) := by decide +kernel
theorem d19_18 : decode jdk_33_method_47_code 18 = .ok (.iload_n 0, 1) := by decide +kernel
theorem d19_19 : decode jdk_33_method_47_code 19 = .ok (.ldc_w 264, 3) := by decide +kernel
theorem d19_22 : decode jdk_33_method_47_code 22 = .ok (.if_icmp .lt 11, 3) := by decide +kernel
theorem d19_25 : decode jdk_33_method_47_code 25 = .ok (.iinc 1 (-16), 3) := by decide +kernel
theorem d19_28 : decode jdk_33_method_47_code 28 = .ok (.iload_n 0, 1) := by decide +kernel
theorem d19_29 : decode jdk_33_method_47_code 29 = .ok (.bipush 16, 2) := by decide +kernel
theorem d19_31 : decode jdk_33_method_47_code 31 = .ok (.iushr, 1) := by decide +kernel
theorem d19_32 : decode jdk_33_method_47_code 32 = .ok (.istore_n 0, 1) := by decide +kernel
theorem d19_33 : decode jdk_33_method_47_code 33 = .ok (.iload_n 0, 1) := by decide +kernel
theorem d19_34 : decode jdk_33_method_47_code 34 = .ok (.sipush 256, 3) := by decide +kernel
theorem d19_37 : decode jdk_33_method_47_code 37 = .ok (.if_icmp .lt 11, 3) := by decide +kernel
theorem d19_40 : decode jdk_33_method_47_code 40 = .ok (.iinc 1 (-8), 3) := by decide +kernel
theorem d19_43 : decode jdk_33_method_47_code 43 = .ok (.iload_n 0, 1) := by decide +kernel
theorem d19_44 : decode jdk_33_method_47_code 44 = .ok (.bipush 8, 2) := by decide +kernel
theorem d19_46 : decode jdk_33_method_47_code 46 = .ok (.iushr, 1) := by decide +kernel
theorem d19_47 : decode jdk_33_method_47_code 47 = .ok (.istore_n 0, 1) := by decide +kernel
theorem d19_48 : decode jdk_33_method_47_code 48 = .ok (.iload_n 0, 1) := by decide +kernel
theorem d19_49 : decode jdk_33_method_47_code 49 = .ok (.bipush 16, 2) := by decide +kernel
theorem d19_51 : decode jdk_33_method_47_code 51 = .ok (.if_icmp .lt 10, 3) := by decide +kernel
theorem d19_54 : decode jdk_33_method_47_code 54 = .ok (.iinc 1 (-4), 3) := by decide +kernel
theorem d19_57 : decode jdk_33_method_47_code 57 = .ok (.iload_n 0, 1) := by decide +kernel
theorem d19_58 : decode jdk_33_method_47_code 58 = .ok (.iconst 4, 1) := by decide +kernel
theorem d19_59 : decode jdk_33_method_47_code 59 = .ok (.iushr, 1) := by decide +kernel
theorem d19_60 : decode jdk_33_method_47_code 60 = .ok (.istore_n 0, 1) := by decide +kernel
theorem d19_61 : decode jdk_33_method_47_code 61 = .ok (.iload_n 0, 1) := by decide +kernel
theorem d19_62 : decode jdk_33_method_47_code 62 = .ok (.iconst 4, 1) := by decide +kernel
theorem d19_63 : decode jdk_33_method_47_code 63 = .ok (.if_icmp .lt 10, 3) := by decide +kernel
theorem d19_66 : decode jdk_33_method_47_code 66 = .ok (.iinc 1 (-2), 3) := by decide +kernel
theorem d19_69 : decode jdk_33_method_47_code 69 = .ok (.iload_n 0, 1) := by decide +kernel
theorem d19_70 : decode jdk_33_method_47_code 70 = .ok (.iconst 2, 1) := by decide +kernel
theorem d19_71 : decode jdk_33_method_47_code 71 = .ok (.iushr, 1) := by decide +kernel
theorem d19_72 : decode jdk_33_method_47_code 72 = .ok (.istore_n 0, 1) := by decide +kernel
theorem d19_73 : decode jdk_33_method_47_code 73 = .ok (.iload_n 1, 1) := by decide +kernel
theorem d19_74 : decode jdk_33_method_47_code 74 = .ok (.iload_n 0, 1) := by decide +kernel
theorem d19_75 : decode jdk_33_method_47_code 75 = .ok (.iconst 1, 1) := by decide +kernel
theorem d19_76 : decode jdk_33_method_47_code 76 = .ok (.iushr, 1) := by decide +kernel
theorem d19_77 : decode jdk_33_method_47_code 77 = .ok (.isub, 1) := by decide +kernel
theorem d19_78 : decode jdk_33_method_47_code 78 = .ok (.ireturn, 1) := by decide +kernel
theorem pn_19 : plainName "java/lang/Integer" = true := by first | (simp [plainName, overriddenIn]; done) | decide +kernel
theorem pd_19 : parseMethodDescriptor "(I)I" = some ⟨[.int], (some .int)⟩ := by decide +kernel
theorem ef_19 (m : MethodId)  : entryFrame m #[(.int (0 : Int32))] 2 = mkF m 0 #[.val (.int (0 : Int32)), .unset] [] := by first | (simp [entryFrame, mkF, argsToLocals, Value.category]; done) | rfl
def own_f19  : Int32 := (32 : Int32)
def own_F19 (Z : State)   (h0 : Heap) (v : Option Value) (h : Heap) (L : List Loc) : Prop := v = some (.int (own_f19 )) ∧ L = [] ∧ h = h0
set_option maxRecDepth 65536 in
set_option maxHeartbeats 40000000 in
theorem own_m19 (l : Launch) (Z : State) (a0 : Array Value) (hw : ∀ d ∈ tables_1, d.before a0 Z = true) (ws : List Jvm.Cond)   (h0 : Heap)   :
    MetFree l (⟨"java/lang/Integer", "numberOfLeadingZeros", "(I)I"⟩ : MethodName) (head1 (Jvm.Cond.code (⟨"java/lang/Integer", "numberOfLeadingZeros", "(I)I"⟩ : MethodName) jdk_33_method_47_code 2 (some .int) :: ws) ({ frames := 0, cells := 0, slots := 0, locals := 0 } : Room)) (fun a U => a = #[(.int (0 : Int32))] ∧ Z.Warmed39 U.vm ∧ U.heap = h0) (fun _ _ _ _ _ => True) (fun _ U o U' => ∃ v L, o = .returned v ∧ own_F19 Z h0 v U'.heap L ∧ FrameEnd U o U' L ({ frames := 0, cells := 0, slots := 0, locals := 0 } : Room).cells ({ frames := 0, cells := 0, slots := 0, locals := 0 } : Room).slots) := by
  refine MetFree.of_bodySF (plainFor_of_name pn_19) hisR ?_
  intro p e s m args below meth c s₁ Bd hml0 hP hK
  obtain ⟨rfl, hZ, hh⟩ := hP
  have hx := Bd.exec
  have hby := Bd.bytes
  have hml : c.maxLocals = 2 := hml0
  have hown : s.vm.findClass "java/lang/Integer" = some m.cls := findClass_of_methodNamed Bd.named
  have hnm := (name_of_methodNamed Bd.named Bd.method).1
  have X0 : Stand p l e ({ frames := 0, cells := 0, slots := 0, locals := 0 } : Room) s m #[(.int (0 : Int32))] below meth c s₁ [] 0 0 := Stand.of_body Bd
  have e0 : s₁.heap = h0 := by rw [← hh, Bd.state]; rfl
  have hgo : own_Goes p e below s (own_F19 Z h0) 0 0 (s₁.setTop (mkF m 0 #[.val (.int (0 : Int32)), .unset] [])) := by
    refine own_Goes.step (fun tq kq => XS.iloadN X0.here hx rfl (hb hby d19_0) rfl kq) ?_
    show own_Goes _ _ _ _ _ _ _ (s₁.setTop (mkF m 1 #[.val (.int (0 : Int32)), .unset] [(.int (0 : Int32))]))
    refine own_Goes.step (fun tq kq => XS.ifNo X0.here hx rfl (hb hby d19_1) rfl (XT.i0_gt_f (by decide)) kq) ?_
    show own_Goes _ _ _ _ _ _ _ (s₁.setTop (mkF m 4 #[.val (.int (0 : Int32)), .unset] []))
    refine own_Goes.step (fun tq kq => XS.iloadN X0.here hx rfl (hb hby d19_4) rfl kq) ?_
    show own_Goes _ _ _ _ _ _ _ (s₁.setTop (mkF m 5 #[.val (.int (0 : Int32)), .unset] [(.int (0 : Int32))]))
    refine own_Goes.step (fun tq kq => XS.ifNo X0.here hx rfl (hb hby d19_5) rfl (XT.i0_ne_f (by decide)) kq) ?_
    show own_Goes _ _ _ _ _ _ _ (s₁.setTop (mkF m 8 #[.val (.int (0 : Int32)), .unset] []))
    refine own_Goes.step (fun tq kq => XT.bipushV X0.here hx rfl (32 : Int32) (hb hby d19_8) (by decide) kq) ?_
    show own_Goes _ _ _ _ _ _ _ (s₁.setTop (mkF m 10 #[.val (.int (0 : Int32)), .unset] [(.int (32 : Int32))]))
    refine own_Goes.step (fun tq kq => XS.goto X0.here hx rfl (pc0 := 10) (pc' := 14) rfl (hb hby d19_10) (by decide) (by decide) kq) ?_
    show own_Goes _ _ _ _ _ _ _ (s₁.setTop (mkF m 14 #[.val (.int (0 : Int32)), .unset] [(.int (32 : Int32))]))
    exact own_endI X0 hx Bd.notSynchronized Bd.returns (hb hby d19_14) ⟨(congrArg (fun z => some (Value.int z)) (show (32 : Int32) = own_f19  from by simp only [own_f19])), rfl, e0⟩ (by decide) (by decide)
  obtain ⟨t2, o2, q1, q2, q3, q4⟩ := hgo
  exact ⟨t2, o2, castTop (ef_19 m ) q1, q2, q3, q4⟩
theorem d18_0 : decode jdk_35_method_48_code 0 = .ok (.lload_n 0, 1) := by decide +kernel
theorem d18_1 : decode jdk_35_method_48_code 1 = .ok (.bipush 32, 2) := by decide +kernel
theorem d18_3 : decode jdk_35_method_48_code 3 = .ok (.lushr, 1) := by decide +kernel
theorem d18_4 : decode jdk_35_method_48_code 4 = .ok (.l2i, 1) := by decide +kernel
theorem d18_5 : decode jdk_35_method_48_code 5 = .ok (.istore_n 2, 1) := by decide +kernel
theorem d18_6 : decode jdk_35_method_48_code 6 = .ok (.iload_n 2, 1) := by decide +kernel
theorem d18_7 : decode jdk_35_method_48_code 7 = .ok (.ifCond .ne 14, 3) := by decide +kernel
theorem d18_10 : decode jdk_35_method_48_code 10 = .ok (.bipush 32, 2) := by decide +kernel
theorem d18_12 : decode jdk_35_method_48_code 12 = .ok (.lload_n 0, 1) := by decide +kernel
theorem d18_13 : decode jdk_35_method_48_code 13 = .ok (.l2i, 1) := by decide +kernel
theorem d18_14 : decode jdk_35_method_48_code 14 = .ok (.invokestatic 308, 3) := by decide +kernel
theorem d18_17 : decode jdk_35_method_48_code 17 = .ok (.iadd, 1) := by decide +kernel
theorem d18_18 : decode jdk_35_method_48_code 18 = .ok (.goto 7, 3) := by decide +kernel
theorem d18_21 : decode jdk_35_method_48_code 21 = .ok (.iload_n 2, 1) := by decide +kernel
theorem d18_22 : decode jdk_35_method_48_code 22 = .ok (.invokestatic 308, 3) := by decide +kernel
theorem d18_25 : decode jdk_35_method_48_code 25 = .ok (.ireturn, 1) := by decide +kernel
theorem pn_18 : plainName "java/lang/Long" = true := by first | (simp [plainName, overriddenIn]; done) | decide +kernel
theorem pd_18 : parseMethodDescriptor "(J)I" = some ⟨[.long], (some .int)⟩ := by decide +kernel
theorem ef_18 (m : MethodId)  : entryFrame m #[(.long (0 : Int64))] 3 = mkF m 0 #[.val (.long (0 : Int64)), .second, .unset] [] := by first | (simp [entryFrame, mkF, argsToLocals, Value.category]; done) | rfl
def own_f18  : Int32 := ((32 : Int32) + own_f19)
def own_F18 (Z : State)   (h0 : Heap) (v : Option Value) (h : Heap) (L : List Loc) : Prop := v = some (.int (own_f18 )) ∧ L = [] ∧ h = h0
set_option maxRecDepth 65536 in
set_option maxHeartbeats 40000000 in
theorem own_m18 (l : Launch) (Z : State) (a0 : Array Value) (hw : ∀ d ∈ tables_1, d.before a0 Z = true) (ws : List Jvm.Cond)   (h0 : Heap)   :
    MetFree l (⟨"java/lang/Long", "numberOfLeadingZeros", "(J)I"⟩ : MethodName) (head1 (Jvm.Cond.code (⟨"java/lang/Long", "numberOfLeadingZeros", "(J)I"⟩ : MethodName) jdk_35_method_48_code 3 (some .int) :: ws) ({ frames := 1, cells := 0, slots := 0, locals := 14 } : Room)) (fun a U => a = #[(.long (0 : Int64))] ∧ Z.Warmed39 U.vm ∧ U.heap = h0) (fun _ _ _ _ _ => True) (fun _ U o U' => ∃ v L, o = .returned v ∧ own_F18 Z h0 v U'.heap L ∧ FrameEnd U o U' L ({ frames := 1, cells := 0, slots := 0, locals := 14 } : Room).cells ({ frames := 1, cells := 0, slots := 0, locals := 14 } : Room).slots) := by
  refine MetFree.of_bodySF (plainFor_of_name pn_18) hisR ?_
  intro p e s m args below meth c s₁ Bd hml0 hP hK
  obtain ⟨rfl, hZ, hh⟩ := hP
  have hx := Bd.exec
  have hby := Bd.bytes
  have hml : c.maxLocals = 3 := hml0
  have hown : s.vm.findClass "java/lang/Long" = some m.cls := findClass_of_methodNamed Bd.named
  have hnm := (name_of_methodNamed Bd.named Bd.method).1
  have X0 : Stand p l e ({ frames := 1, cells := 0, slots := 0, locals := 14 } : Room) s m #[(.long (0 : Int64))] below meth c s₁ [] 0 0 := Stand.of_body Bd
  have e0 : s₁.heap = h0 := by rw [← hh, Bd.state]; rfl
  have hgo : own_Goes p e below s (own_F18 Z h0) 0 0 (s₁.setTop (mkF m 0 #[.val (.long (0 : Int64)), .second, .unset] [])) := by
    refine own_Goes.step (fun tq kq => XT.lloadN X0.here hx rfl (hb hby d18_0) rfl kq) ?_
    show own_Goes _ _ _ _ _ _ _ (s₁.setTop (mkF m 1 #[.val (.long (0 : Int64)), .second, .unset] [(.long (0 : Int64))]))
    refine own_Goes.step (fun tq kq => XT.bipushV X0.here hx rfl (32 : Int32) (hb hby d18_1) (by decide) kq) ?_
    show own_Goes _ _ _ _ _ _ _ (s₁.setTop (mkF m 3 #[.val (.long (0 : Int64)), .second, .unset] [(.int (32 : Int32)), (.long (0 : Int64))]))
    refine own_Goes.step (fun tq kq => XT.lushr X0.here hx rfl (hb hby d18_3) rfl kq) ?_
    show own_Goes _ _ _ _ _ _ _ (s₁.setTop (mkF m 4 #[.val (.long (0 : Int64)), .second, .unset] [(.long (XT.ushrL (0 : Int64) (32 : Int32)))]))
    refine own_Goes.step (fun tq kq => XT.l2i X0.here hx rfl (hb hby d18_4) rfl kq) ?_
    show own_Goes _ _ _ _ _ _ _ (s₁.setTop (mkF m 5 #[.val (.long (0 : Int64)), .second, .unset] [(.int ((XT.ushrL (0 : Int64) (32 : Int32)).toInt32))]))
    refine own_Goes.step (fun tq kq => XS.istoreN X0.here hx rfl (hb hby d18_5) rfl (l' := #[.val (.long (0 : Int64)), .second, .val (.int ((XT.ushrL (0 : Int64) (32 : Int32)).toInt32))]) rfl kq) ?_
    show own_Goes _ _ _ _ _ _ _ (s₁.setTop (mkF m 6 #[.val (.long (0 : Int64)), .second, .val (.int ((XT.ushrL (0 : Int64) (32 : Int32)).toInt32))] []))
    refine own_Goes.step (fun tq kq => XS.iloadN X0.here hx rfl (hb hby d18_6) rfl kq) ?_
    show own_Goes _ _ _ _ _ _ _ (s₁.setTop (mkF m 7 #[.val (.long (0 : Int64)), .second, .val (.int ((XT.ushrL (0 : Int64) (32 : Int32)).toInt32))] [(.int ((XT.ushrL (0 : Int64) (32 : Int32)).toInt32))]))
    refine own_Goes.step (fun tq kq => XS.ifNo X0.here hx rfl (hb hby d18_7) rfl (XT.i0_ne_f (by decide)) kq) ?_
    show own_Goes _ _ _ _ _ _ _ (s₁.setTop (mkF m 10 #[.val (.long (0 : Int64)), .second, .val (.int ((XT.ushrL (0 : Int64) (32 : Int32)).toInt32))] []))
    refine own_Goes.step (fun tq kq => XT.bipushV X0.here hx rfl (32 : Int32) (hb hby d18_10) (by decide) kq) ?_
    show own_Goes _ _ _ _ _ _ _ (s₁.setTop (mkF m 12 #[.val (.long (0 : Int64)), .second, .val (.int ((XT.ushrL (0 : Int64) (32 : Int32)).toInt32))] [(.int (32 : Int32))]))
    refine own_Goes.step (fun tq kq => XT.lloadN X0.here hx rfl (hb hby d18_12) rfl kq) ?_
    show own_Goes _ _ _ _ _ _ _ (s₁.setTop (mkF m 13 #[.val (.long (0 : Int64)), .second, .val (.int ((XT.ushrL (0 : Int64) (32 : Int32)).toInt32))] [(.long (0 : Int64)), (.int (32 : Int32))]))
    refine own_Goes.step (fun tq kq => XT.l2i X0.here hx rfl (hb hby d18_13) rfl kq) ?_
    show own_Goes _ _ _ _ _ _ _ (s₁.setTop (mkF m 14 #[.val (.long (0 : Int64)), .second, .val (.int ((XT.ushrL (0 : Int64) (32 : Int32)).toInt32))] [(.int ((0 : Int64).toInt32)), (.int (32 : Int32))]))
    rw [show (0 : Int64).toInt32 = (0 : Int32) from by decide]
    show own_Goes _ _ _ _ _ _ _ (s₁.setTop (mkF m 14 #[.val (.long (0 : Int64)), .second, .val (.int ((XT.ushrL (0 : Int64) (32 : Int32)).toInt32))] [(.int (0 : Int32)), (.int (32 : Int32))]))
    obtain ⟨w1, T1, L1, q1, Y1, st1⟩ := own_stat X0 hx hZ e0 hown (own_at hw 114 rfl) (own_at hw 115 rfl) (own_at hw 116 rfl) (own_at hw 117 rfl) (by decide) (own_m19 l Z a0 hw []  h0 ) (by decide) (W := 1) (by decide) (by decide) (by decide) (g := (mkF m 14 #[.val (.long (0 : Int64)), .second, .val (.int ((XT.ushrL (0 : Int64) (32 : Int32)).toInt32))] [(.int (0 : Int32)), (.int (32 : Int32))])) rfl (by rw [hml]; rfl) (argsL := [(.int (0 : Int32))]) (rest := [(.int (32 : Int32))]) (lenOf pd_19 rfl) rfl (by show 2 * 0 + _ ≤ _; exact Nat.le_of_eq rfl) (hb hby d18_14)
    obtain ⟨e1, X1⟩ := own_clean q1 Y1 rfl rfl
    obtain ⟨rfl, -, -⟩ := q1
    refine own_Goes.step st1 ?_
    show own_Goes _ _ _ _ _ _ _ (T1.setTop (mkF m 17 #[.val (.long (0 : Int64)), .second, .val (.int ((XT.ushrL (0 : Int64) (32 : Int32)).toInt32))] [(.int own_f19), (.int (32 : Int32))]))
    refine own_Goes.step (fun tq kq => XS.iadd X1.here hx rfl (hb hby d18_17) rfl kq) ?_
    show own_Goes _ _ _ _ _ _ _ (T1.setTop (mkF m 18 #[.val (.long (0 : Int64)), .second, .val (.int ((XT.ushrL (0 : Int64) (32 : Int32)).toInt32))] [(.int ((32 : Int32) + own_f19))]))
    refine own_Goes.step (fun tq kq => XS.goto X1.here hx rfl (pc0 := 18) (pc' := 25) rfl (hb hby d18_18) (by decide) (by decide) kq) ?_
    show own_Goes _ _ _ _ _ _ _ (T1.setTop (mkF m 25 #[.val (.long (0 : Int64)), .second, .val (.int ((XT.ushrL (0 : Int64) (32 : Int32)).toInt32))] [(.int ((32 : Int32) + own_f19))]))
    exact own_endI X1 hx Bd.notSynchronized Bd.returns (hb hby d18_25) ⟨(congrArg (fun z => some (Value.int z)) (show ((32 : Int32) + own_f19) = own_f18  from by simp only [own_f18])), rfl, e1⟩ (by decide) (by decide)
  obtain ⟨t2, o2, q1, q2, q3, q4⟩ := hgo
  exact ⟨t2, o2, castTop (ef_18 m ) q1, q2, q3, q4⟩
theorem d17_0 : decode prog_59_method_8_code 0 = .ok (.lconst 0, 1) := by decide +kernel
theorem d17_1 : decode prog_59_method_8_code 1 = .ok (.lstore_n 3, 1) := by decide +kernel
theorem d17_2 : decode prog_59_method_8_code 2 = .ok (.iload_n 1, 1) := by decide +kernel
theorem d17_3 : decode prog_59_method_8_code 3 = .ok (.istore 5, 2) := by decide +kernel
theorem d17_5 : decode prog_59_method_8_code 5 = .ok (.iload 5, 2) := by decide +kernel
theorem d17_7 : decode prog_59_method_8_code 7 = .ok (.iload_n 2, 1) := by decide +kernel
theorem d17_8 : decode prog_59_method_8_code 8 = .ok (.if_icmp .ge 20, 3) := by decide +kernel
theorem d17_11 : decode prog_59_method_8_code 11 = .ok (.lload_n 3, 1) := by decide +kernel
theorem d17_12 : decode prog_59_method_8_code 12 = .ok (.aload_n 0, 1) := by decide +kernel
theorem d17_13 : decode prog_59_method_8_code 13 = .ok (.iload 5, 2) := by decide +kernel
theorem d17_15 : decode prog_59_method_8_code 15 = .ok (.laload, 1) := by decide +kernel
theorem d17_16 : decode prog_59_method_8_code 16 = .ok (.aload_n 0, 1) := by decide +kernel
theorem d17_17 : decode prog_59_method_8_code 17 = .ok (.iload_n 1, 1) := by decide +kernel
theorem d17_18 : decode prog_59_method_8_code 18 = .ok (.laload, 1) := by decide +kernel
theorem d17_19 : decode prog_59_method_8_code 19 = .ok (.lxor, 1) := by decide +kernel
theorem d17_20 : decode prog_59_method_8_code 20 = .ok (.lor, 1) := by decide +kernel
theorem d17_21 : decode prog_59_method_8_code 21 = .ok (.lstore_n 3, 1) := by decide +kernel
theorem d17_22 : decode prog_59_method_8_code 22 = .ok (.iinc 5 1, 3) := by decide +kernel
theorem d17_25 : decode prog_59_method_8_code 25 = .ok (.goto (-20), 3) := by decide +kernel
theorem d17_28 : decode prog_59_method_8_code 28 = .ok (.bipush 64, 2) := by decide +kernel
theorem d17_30 : decode prog_59_method_8_code 30 = .ok (.lload_n 3, 1) := by decide +kernel
theorem d17_31 : decode prog_59_method_8_code 31 = .ok (.invokestatic 59, 3) := by decide +kernel
theorem d17_34 : decode prog_59_method_8_code 34 = .ok (.isub, 1) := by decide +kernel
theorem d17_35 : decode prog_59_method_8_code 35 = .ok (.ireturn, 1) := by decide +kernel
theorem pn_17 : plainName "com/example/strati/strati/sim/UnsignedKeys" = true := by first | (simp [plainName, overriddenIn]; done) | decide +kernel
theorem pd_17 : parseMethodDescriptor "([JII)I" = some ⟨[(.array .long), .int, .int], (some .int)⟩ := by decide +kernel
theorem ef_17 (m : MethodId) (x0 : Addr) : entryFrame m #[(.ref x0), (.int (0 : Int32)), (.int (1 : Int32))] 6 = mkF m 0 #[.val (.ref x0), .val (.int (0 : Int32)), .val (.int (1 : Int32)), .unset, .unset, .unset] [] := by first | (simp [entryFrame, mkF, argsToLocals, Value.category]; done) | rfl
def own_f17 (K : Nat → Int64) : Int32 := ((64 : Int32) - own_f18)
def own_F17 (Z : State) (x0 : Addr) (K : Nat → Int64) (n0 : Nat) (h0 : Heap) (v : Option Value) (h : Heap) (L : List Loc) : Prop := v = some (.int (own_f17 K)) ∧ L = [] ∧ h = h0
set_option maxRecDepth 65536 in
set_option maxHeartbeats 40000000 in
theorem own_m17 (l : Launch) (Z : State) (a0 : Array Value) (hw : ∀ d ∈ tables_1, d.before a0 Z = true) (ws : List Jvm.Cond) (x0 : Addr) (K : Nat → Int64) (n0 : Nat) (h0 : Heap)  (RK : own_Ar Z h0 x0 .long 16 (fun uu => .long (K uu))) :
    MetFree l (⟨"com/example/strati/strati/sim/UnsignedKeys", "differingBits", "([JII)I"⟩ : MethodName) (head1 (Jvm.Cond.code (⟨"com/example/strati/strati/sim/UnsignedKeys", "differingBits", "([JII)I"⟩ : MethodName) prog_59_method_8_code 6 (some .int) :: ws) ({ frames := 2, cells := 0, slots := 0, locals := 29 } : Room)) (fun a U => a = #[(.ref x0), (.int (0 : Int32)), (.int (1 : Int32))] ∧ Z.Warmed39 U.vm ∧ U.heap = h0) (fun _ _ _ _ _ => True) (fun _ U o U' => ∃ v L, o = .returned v ∧ own_F17 Z x0 K n0 h0 v U'.heap L ∧ FrameEnd U o U' L ({ frames := 2, cells := 0, slots := 0, locals := 29 } : Room).cells ({ frames := 2, cells := 0, slots := 0, locals := 29 } : Room).slots) := by
  refine MetFree.of_bodySF (plainFor_of_name pn_17) hisR ?_
  intro p e s m args below meth c s₁ Bd hml0 hP hK
  obtain ⟨rfl, hZ, hh⟩ := hP
  have hx := Bd.exec
  have hby := Bd.bytes
  have hml : c.maxLocals = 6 := hml0
  have hown : s.vm.findClass "com/example/strati/strati/sim/UnsignedKeys" = some m.cls := findClass_of_methodNamed Bd.named
  have hnm := (name_of_methodNamed Bd.named Bd.method).1
  have X0 : Stand p l e ({ frames := 2, cells := 0, slots := 0, locals := 29 } : Room) s m #[(.ref x0), (.int (0 : Int32)), (.int (1 : Int32))] below meth c s₁ [] 0 0 := Stand.of_body Bd
  have e0 : s₁.heap = h0 := by rw [← hh, Bd.state]; rfl
  have N0 := Fr.nil n0
  have K0 : Keep h0 h0 [] := Keep.refl h0 []
  have hgo : own_Goes p e below s (own_F17 Z x0 K n0 h0) 0 0 (s₁.setTop (mkF m 0 #[.val (.ref x0), .val (.int (0 : Int32)), .val (.int (1 : Int32)), .unset, .unset, .unset] [])) := by
    refine own_Goes.step (fun tq kq => XT.lconstV X0.here hx rfl (0 : Int64) (hb hby d17_0) (by decide) kq) ?_
    show own_Goes _ _ _ _ _ _ _ (s₁.setTop (mkF m 1 #[.val (.ref x0), .val (.int (0 : Int32)), .val (.int (1 : Int32)), .unset, .unset, .unset] [(.long (0 : Int64))]))
    refine own_Goes.step (fun tq kq => XT.lstoreN X0.here hx rfl (hb hby d17_1) rfl (l' := #[.val (.ref x0), .val (.int (0 : Int32)), .val (.int (1 : Int32)), .val (.long (0 : Int64)), .second, .unset]) rfl kq) ?_
    show own_Goes _ _ _ _ _ _ _ (s₁.setTop (mkF m 2 #[.val (.ref x0), .val (.int (0 : Int32)), .val (.int (1 : Int32)), .val (.long (0 : Int64)), .second, .unset] []))
    refine own_Goes.step (fun tq kq => XS.iloadN X0.here hx rfl (hb hby d17_2) rfl kq) ?_
    show own_Goes _ _ _ _ _ _ _ (s₁.setTop (mkF m 3 #[.val (.ref x0), .val (.int (0 : Int32)), .val (.int (1 : Int32)), .val (.long (0 : Int64)), .second, .unset] [(.int (0 : Int32))]))
    refine own_Goes.step (fun tq kq => XS.istore X0.here hx rfl (hb hby d17_3) rfl (l' := #[.val (.ref x0), .val (.int (0 : Int32)), .val (.int (1 : Int32)), .val (.long (0 : Int64)), .second, .val (.int (0 : Int32))]) rfl kq) ?_
    show own_Goes _ _ _ _ _ _ _ (s₁.setTop (mkF m 5 #[.val (.ref x0), .val (.int (0 : Int32)), .val (.int (1 : Int32)), .val (.long (0 : Int64)), .second, .val (.int (0 : Int32))] []))
    refine own_Goes.step (fun tq kq => XS.iload X0.here hx rfl (hb hby d17_5) rfl kq) ?_
    show own_Goes _ _ _ _ _ _ _ (s₁.setTop (mkF m 7 #[.val (.ref x0), .val (.int (0 : Int32)), .val (.int (1 : Int32)), .val (.long (0 : Int64)), .second, .val (.int (0 : Int32))] [(.int (0 : Int32))]))
    refine own_Goes.step (fun tq kq => XS.iloadN X0.here hx rfl (hb hby d17_7) rfl kq) ?_
    show own_Goes _ _ _ _ _ _ _ (s₁.setTop (mkF m 8 #[.val (.ref x0), .val (.int (0 : Int32)), .val (.int (1 : Int32)), .val (.long (0 : Int64)), .second, .val (.int (0 : Int32))] [(.int (1 : Int32)), (.int (0 : Int32))]))
    refine own_Goes.step (fun tq kq => XS.icmpNo X0.here hx rfl (hb hby d17_8) rfl (XT.ii_ge_f (by decide)) kq) ?_
    show own_Goes _ _ _ _ _ _ _ (s₁.setTop (mkF m 11 #[.val (.ref x0), .val (.int (0 : Int32)), .val (.int (1 : Int32)), .val (.long (0 : Int64)), .second, .val (.int (0 : Int32))] []))
    refine own_Goes.step (fun tq kq => XT.lloadN X0.here hx rfl (hb hby d17_11) rfl kq) ?_
    show own_Goes _ _ _ _ _ _ _ (s₁.setTop (mkF m 12 #[.val (.ref x0), .val (.int (0 : Int32)), .val (.int (1 : Int32)), .val (.long (0 : Int64)), .second, .val (.int (0 : Int32))] [(.long (0 : Int64))]))
    refine own_Goes.step (fun tq kq => XS.aloadN X0.here hx rfl (hb hby d17_12) rfl rfl kq) ?_
    show own_Goes _ _ _ _ _ _ _ (s₁.setTop (mkF m 13 #[.val (.ref x0), .val (.int (0 : Int32)), .val (.int (1 : Int32)), .val (.long (0 : Int64)), .second, .val (.int (0 : Int32))] [(.ref x0), (.long (0 : Int64))]))
    refine own_Goes.step (fun tq kq => XS.iload X0.here hx rfl (hb hby d17_13) rfl kq) ?_
    show own_Goes _ _ _ _ _ _ _ (s₁.setTop (mkF m 15 #[.val (.ref x0), .val (.int (0 : Int32)), .val (.int (1 : Int32)), .val (.long (0 : Int64)), .second, .val (.int (0 : Int32))] [(.int (0 : Int32)), (.ref x0), (.long (0 : Int64))]))
    refine own_Goes.step (own_lald X0 hx hZ e0 RK (i := 0) rfl (by decide) (v := (.long (K 0))) rfl (g := (mkF m 15 #[.val (.ref x0), .val (.int (0 : Int32)), .val (.int (1 : Int32)), .val (.long (0 : Int64)), .second, .val (.int (0 : Int32))] [(.int (0 : Int32)), (.ref x0), (.long (0 : Int64))])) rfl rfl (hb hby d17_15)) ?_
    show own_Goes _ _ _ _ _ _ _ (s₁.setTop (mkF m 16 #[.val (.ref x0), .val (.int (0 : Int32)), .val (.int (1 : Int32)), .val (.long (0 : Int64)), .second, .val (.int (0 : Int32))] [(.long (K 0)), (.long (0 : Int64))]))
    refine own_Goes.step (fun tq kq => XS.aloadN X0.here hx rfl (hb hby d17_16) rfl rfl kq) ?_
    show own_Goes _ _ _ _ _ _ _ (s₁.setTop (mkF m 17 #[.val (.ref x0), .val (.int (0 : Int32)), .val (.int (1 : Int32)), .val (.long (0 : Int64)), .second, .val (.int (0 : Int32))] [(.ref x0), (.long (K 0)), (.long (0 : Int64))]))
    refine own_Goes.step (fun tq kq => XS.iloadN X0.here hx rfl (hb hby d17_17) rfl kq) ?_
    show own_Goes _ _ _ _ _ _ _ (s₁.setTop (mkF m 18 #[.val (.ref x0), .val (.int (0 : Int32)), .val (.int (1 : Int32)), .val (.long (0 : Int64)), .second, .val (.int (0 : Int32))] [(.int (0 : Int32)), (.ref x0), (.long (K 0)), (.long (0 : Int64))]))
    refine own_Goes.step (own_lald X0 hx hZ e0 RK (i := 0) rfl (by decide) (v := (.long (K 0))) rfl (g := (mkF m 18 #[.val (.ref x0), .val (.int (0 : Int32)), .val (.int (1 : Int32)), .val (.long (0 : Int64)), .second, .val (.int (0 : Int32))] [(.int (0 : Int32)), (.ref x0), (.long (K 0)), (.long (0 : Int64))])) rfl rfl (hb hby d17_18)) ?_
    show own_Goes _ _ _ _ _ _ _ (s₁.setTop (mkF m 19 #[.val (.ref x0), .val (.int (0 : Int32)), .val (.int (1 : Int32)), .val (.long (0 : Int64)), .second, .val (.int (0 : Int32))] [(.long (K 0)), (.long (K 0)), (.long (0 : Int64))]))
    refine own_Goes.step (fun tq kq => XT.lxor X0.here hx rfl (hb hby d17_19) rfl kq) ?_
    show own_Goes _ _ _ _ _ _ _ (s₁.setTop (mkF m 20 #[.val (.ref x0), .val (.int (0 : Int32)), .val (.int (1 : Int32)), .val (.long (0 : Int64)), .second, .val (.int (0 : Int32))] [(.long ((K 0) ^^^ (K 0))), (.long (0 : Int64))]))
    refine own_Goes.step (fun tq kq => XT.lor X0.here hx rfl (hb hby d17_20) rfl kq) ?_
    show own_Goes _ _ _ _ _ _ _ (s₁.setTop (mkF m 21 #[.val (.ref x0), .val (.int (0 : Int32)), .val (.int (1 : Int32)), .val (.long (0 : Int64)), .second, .val (.int (0 : Int32))] [(.long ((0 : Int64) ||| ((K 0) ^^^ (K 0))))]))
    refine own_Goes.step (fun tq kq => XT.lstoreN X0.here hx rfl (hb hby d17_21) rfl (l' := #[.val (.ref x0), .val (.int (0 : Int32)), .val (.int (1 : Int32)), .val (.long ((0 : Int64) ||| ((K 0) ^^^ (K 0)))), .second, .val (.int (0 : Int32))]) rfl kq) ?_
    show own_Goes _ _ _ _ _ _ _ (s₁.setTop (mkF m 22 #[.val (.ref x0), .val (.int (0 : Int32)), .val (.int (1 : Int32)), .val (.long ((0 : Int64) ||| ((K 0) ^^^ (K 0)))), .second, .val (.int (0 : Int32))] []))
    refine own_Goes.step (fun tq kq => XT.iincV X0.here hx rfl (1 : Int32) (hb hby d17_22) (by decide) rfl (l' := #[.val (.ref x0), .val (.int (0 : Int32)), .val (.int (1 : Int32)), .val (.long ((0 : Int64) ||| ((K 0) ^^^ (K 0)))), .second, .val (.int (1 : Int32))]) rfl kq) ?_
    show own_Goes _ _ _ _ _ _ _ (s₁.setTop (mkF m 25 #[.val (.ref x0), .val (.int (0 : Int32)), .val (.int (1 : Int32)), .val (.long ((0 : Int64) ||| ((K 0) ^^^ (K 0)))), .second, .val (.int (1 : Int32))] []))
    refine own_Goes.step (fun tq kq => XS.goto X0.here hx rfl (pc0 := 25) (pc' := 5) rfl (hb hby d17_25) (by decide) (by decide) kq) ?_
    show own_Goes _ _ _ _ _ _ _ (s₁.setTop (mkF m 5 #[.val (.ref x0), .val (.int (0 : Int32)), .val (.int (1 : Int32)), .val (.long ((0 : Int64) ||| ((K 0) ^^^ (K 0)))), .second, .val (.int (1 : Int32))] []))
    refine own_Goes.step (fun tq kq => XS.iload X0.here hx rfl (hb hby d17_5) rfl kq) ?_
    show own_Goes _ _ _ _ _ _ _ (s₁.setTop (mkF m 7 #[.val (.ref x0), .val (.int (0 : Int32)), .val (.int (1 : Int32)), .val (.long ((0 : Int64) ||| ((K 0) ^^^ (K 0)))), .second, .val (.int (1 : Int32))] [(.int (1 : Int32))]))
    refine own_Goes.step (fun tq kq => XS.iloadN X0.here hx rfl (hb hby d17_7) rfl kq) ?_
    show own_Goes _ _ _ _ _ _ _ (s₁.setTop (mkF m 8 #[.val (.ref x0), .val (.int (0 : Int32)), .val (.int (1 : Int32)), .val (.long ((0 : Int64) ||| ((K 0) ^^^ (K 0)))), .second, .val (.int (1 : Int32))] [(.int (1 : Int32)), (.int (1 : Int32))]))
    refine own_Goes.step (fun tq kq => XS.icmpYes X0.here hx rfl (pc0 := 8) (pc' := 28) rfl (hb hby d17_8) rfl (XT.ii_ge_t (by decide)) (by decide) (by decide) kq) ?_
    show own_Goes _ _ _ _ _ _ _ (s₁.setTop (mkF m 28 #[.val (.ref x0), .val (.int (0 : Int32)), .val (.int (1 : Int32)), .val (.long ((0 : Int64) ||| ((K 0) ^^^ (K 0)))), .second, .val (.int (1 : Int32))] []))
    rw [show ((0 : Int64) ||| ((K 0) ^^^ (K 0))) = (0 : Int64) from by rw [Int64.xor_self]; decide]
    show own_Goes _ _ _ _ _ _ _ (s₁.setTop (mkF m 28 #[.val (.ref x0), .val (.int (0 : Int32)), .val (.int (1 : Int32)), .val (.long (0 : Int64)), .second, .val (.int (1 : Int32))] []))
    refine own_Goes.step (fun tq kq => XT.bipushV X0.here hx rfl (64 : Int32) (hb hby d17_28) (by decide) kq) ?_
    show own_Goes _ _ _ _ _ _ _ (s₁.setTop (mkF m 30 #[.val (.ref x0), .val (.int (0 : Int32)), .val (.int (1 : Int32)), .val (.long (0 : Int64)), .second, .val (.int (1 : Int32))] [(.int (64 : Int32))]))
    refine own_Goes.step (fun tq kq => XT.lloadN X0.here hx rfl (hb hby d17_30) rfl kq) ?_
    show own_Goes _ _ _ _ _ _ _ (s₁.setTop (mkF m 31 #[.val (.ref x0), .val (.int (0 : Int32)), .val (.int (1 : Int32)), .val (.long (0 : Int64)), .second, .val (.int (1 : Int32))] [(.long (0 : Int64)), (.int (64 : Int32))]))
    obtain ⟨w3, T3, L3, q3, Y3, st3⟩ := own_stat X0 hx hZ e0 hown (own_at hw 110 rfl) (own_at hw 111 rfl) (own_at hw 112 rfl) (own_at hw 113 rfl) (by decide) (own_m18 l Z a0 hw []  h0 ) (by decide) (W := 1) (by decide) (by decide) (by decide) (g := (mkF m 31 #[.val (.ref x0), .val (.int (0 : Int32)), .val (.int (1 : Int32)), .val (.long (0 : Int64)), .second, .val (.int (1 : Int32))] [(.long (0 : Int64)), (.int (64 : Int32))])) rfl (by rw [hml]; rfl) (argsL := [(.long (0 : Int64))]) (rest := [(.int (64 : Int32))]) (lenOf pd_18 rfl) rfl (by show 2 * 0 + _ ≤ _; exact Nat.le_of_eq rfl) (hb hby d17_31)
    obtain ⟨e3, X3⟩ := own_clean q3 Y3 rfl rfl
    obtain ⟨rfl, -, -⟩ := q3
    refine own_Goes.step st3 ?_
    show own_Goes _ _ _ _ _ _ _ (T3.setTop (mkF m 34 #[.val (.ref x0), .val (.int (0 : Int32)), .val (.int (1 : Int32)), .val (.long (0 : Int64)), .second, .val (.int (1 : Int32))] [(.int own_f18), (.int (64 : Int32))]))
    refine own_Goes.step (fun tq kq => XS.isub X3.here hx rfl (hb hby d17_34) rfl kq) ?_
    show own_Goes _ _ _ _ _ _ _ (T3.setTop (mkF m 35 #[.val (.ref x0), .val (.int (0 : Int32)), .val (.int (1 : Int32)), .val (.long (0 : Int64)), .second, .val (.int (1 : Int32))] [(.int ((64 : Int32) - own_f18))]))
    refine own_endI X3 hx Bd.notSynchronized Bd.returns (hb hby d17_35) ?_ (by decide) (by decide)
    show own_F17 Z x0 K n0 h0 _ T3.heap _
    rw [e3]
    exact ⟨congrArg (fun z => some (Value.int z)) (show ((64 : Int32) - own_f18) = own_f17 K from by simp only [own_f17]), rfl, rfl⟩
  obtain ⟨t2, o2, q1, q2, q3, q4⟩ := hgo
  exact ⟨t2, o2, castTop (ef_17 m x0) q1, q2, q3, q4⟩
theorem own_diff0 (K : Nat → Int64) : own_f17 K = (0 : Int32) := by
  unfold own_f17 own_f18 own_f19
  decide +kernel

theorem own_nin2 {e a b : Addr} (h1 : e ≠ a) (h2 : e ≠ b) : e ∉ [a, b] := fun q => by
  simp only [List.mem_cons, List.not_mem_nil, or_false] at q
  rcases q with q | q
  · exact h1 q
  · exact h2 q
theorem own_kt2b {h0 : Heap} {ws : List Addr} {a b : Addr} (q : a ∈ ws ∨ h0.size ≤ a) (q' : b ∈ ws ∨ h0.size ≤ b) : ∀ x ∈ [a, b], x ∈ ws ∨ h0.size ≤ x := fun x hx => by
  rcases List.mem_cons.mp hx with rfl | hx
  · exact q
  · cases List.mem_singleton.mp hx; exact q'
theorem d16_0 : decode prog_59_method_3_code 0 = .ok (.aload_n 0, 1) := by decide +kernel
theorem d16_1 : decode prog_59_method_3_code 1 = .ok (.iconst 0, 1) := by decide +kernel
theorem d16_2 : decode prog_59_method_3_code 2 = .ok (.iload_n 1, 1) := by decide +kernel
theorem d16_3 : decode prog_59_method_3_code 3 = .ok (.invokestatic 19, 3) := by decide +kernel
theorem d16_6 : decode prog_59_method_3_code 6 = .ok (.istore 4, 2) := by decide +kernel
theorem d16_8 : decode prog_59_method_3_code 8 = .ok (.iload 4, 2) := by decide +kernel
theorem d16_10 : decode prog_59_method_3_code 10 = .ok (.ifCond .ne 37, 3) := by decide +kernel
theorem d16_13 : decode prog_59_method_3_code 13 = .ok (.aload_n 0, 1) := by decide +kernel
theorem d16_14 : decode prog_59_method_3_code 14 = .ok (.iconst 0, 1) := by decide +kernel
theorem d16_15 : decode prog_59_method_3_code 15 = .ok (.aload_n 2, 1) := by decide +kernel
theorem d16_16 : decode prog_59_method_3_code 16 = .ok (.iconst 0, 1) := by decide +kernel
theorem d16_17 : decode prog_59_method_3_code 17 = .ok (.iload_n 1, 1) := by decide +kernel
theorem d16_18 : decode prog_59_method_3_code 18 = .ok (.invokestatic 13, 3) := by decide +kernel
theorem d16_21 : decode prog_59_method_3_code 21 = .ok (.aload_n 3, 1) := by decide +kernel
theorem d16_22 : decode prog_59_method_3_code 22 = .ok (.ifnull 24, 3) := by decide +kernel
theorem d16_25 : decode prog_59_method_3_code 25 = .ok (.iconst 0, 1) := by decide +kernel
theorem d16_26 : decode prog_59_method_3_code 26 = .ok (.istore 5, 2) := by decide +kernel
theorem d16_28 : decode prog_59_method_3_code 28 = .ok (.iload 5, 2) := by decide +kernel
theorem d16_30 : decode prog_59_method_3_code 30 = .ok (.iload_n 1, 1) := by decide +kernel
theorem d16_31 : decode prog_59_method_3_code 31 = .ok (.if_icmp .ge 15, 3) := by decide +kernel
theorem d16_34 : decode prog_59_method_3_code 34 = .ok (.aload_n 3, 1) := by decide +kernel
theorem d16_35 : decode prog_59_method_3_code 35 = .ok (.iload 5, 2) := by decide +kernel
theorem d16_37 : decode prog_59_method_3_code 37 = .ok (.iload 5, 2) := by decide +kernel
theorem d16_39 : decode prog_59_method_3_code 39 = .ok (.iastore, 1) := by decide +kernel
theorem d16_40 : decode prog_59_method_3_code 40 = .ok (.iinc 5 1, 3) := by decide +kernel
theorem d16_43 : decode prog_59_method_3_code 43 = .ok (.goto (-15), 3) := by decide +kernel
theorem d16_46 : decode prog_59_method_3_code 46 = .ok (.return_, 1) := by decide +kernel
theorem d16_47 : decode prog_59_method_3_code 47 = .ok (.iload_n 1, 1) := by decide +kernel
theorem d16_48 : decode prog_59_method_3_code 48 = .ok (.iload 4, 2) := by decide +kernel
theorem d16_50 : decode prog_59_method_3_code 50 = .ok (.invokestatic 23, 3) := by decide +kernel
theorem d16_53 : decode prog_59_method_3_code 53 = .ok (.istore 5, 2) := by decide +kernel
theorem d16_55 : decode prog_59_method_3_code 55 = .ok (.iload 4, 2) := by decide +kernel
theorem d16_57 : decode prog_59_method_3_code 57 = .ok (.iload 5, 2) := by decide +kernel
theorem d16_59 : decode prog_59_method_3_code 59 = .ok (.isub, 1) := by decide +kernel
theorem d16_60 : decode prog_59_method_3_code 60 = .ok (.istore 6, 2) := by decide +kernel
theorem d16_62 : decode prog_59_method_3_code 62 = .ok (.aload_n 0, 1) := by decide +kernel
theorem d16_63 : decode prog_59_method_3_code 63 = .ok (.iconst 0, 1) := by decide +kernel
theorem d16_64 : decode prog_59_method_3_code 64 = .ok (.iload_n 1, 1) := by decide +kernel
theorem d16_65 : decode prog_59_method_3_code 65 = .ok (.iload 6, 2) := by decide +kernel
theorem d16_67 : decode prog_59_method_3_code 67 = .ok (.iload 5, 2) := by decide +kernel
theorem d16_69 : decode prog_59_method_3_code 69 = .ok (.invokestatic 27, 3) := by decide +kernel
theorem d16_72 : decode prog_59_method_3_code 72 = .ok (.astore 7, 2) := by decide +kernel
theorem d16_74 : decode prog_59_method_3_code 74 = .ok (.aload 7, 2) := by decide +kernel
theorem d16_76 : decode prog_59_method_3_code 76 = .ok (.invokevirtual 31, 3) := by decide +kernel
theorem d16_79 : decode prog_59_method_3_code 79 = .ok (.checkcast 32, 3) := by decide +kernel
theorem d16_82 : decode prog_59_method_3_code 82 = .ok (.astore 8, 2) := by decide +kernel
theorem d16_84 : decode prog_59_method_3_code 84 = .ok (.iconst 0, 1) := by decide +kernel
theorem d16_85 : decode prog_59_method_3_code 85 = .ok (.istore 9, 2) := by decide +kernel
theorem d16_87 : decode prog_59_method_3_code 87 = .ok (.iload 9, 2) := by decide +kernel
theorem d16_89 : decode prog_59_method_3_code 89 = .ok (.iload_n 1, 1) := by decide +kernel
theorem d16_90 : decode prog_59_method_3_code 90 = .ok (.if_icmp .ge 48, 3) := by decide +kernel
theorem d16_93 : decode prog_59_method_3_code 93 = .ok (.aload 8, 2) := by decide +kernel
theorem d16_95 : decode prog_59_method_3_code 95 = .ok (.aload_n 0, 1) := by decide +kernel
theorem d16_96 : decode prog_59_method_3_code 96 = .ok (.iload 9, 2) := by decide +kernel
theorem d16_98 : decode prog_59_method_3_code 98 = .ok (.laload, 1) := by decide +kernel
theorem d16_99 : decode prog_59_method_3_code 99 = .ok (.iload 6, 2) := by decide +kernel
theorem d16_101 : decode prog_59_method_3_code 101 = .ok (.iload 5, 2) := by decide +kernel
theorem d16_103 : decode prog_59_method_3_code 103 = .ok (.invokestatic 37, 3) := by decide +kernel
theorem d16_106 : decode prog_59_method_3_code 106 = .ok (.dup2, 1) := by decide +kernel
theorem d16_107 : decode prog_59_method_3_code 107 = .ok (.iaload, 1) := by decide +kernel
theorem d16_108 : decode prog_59_method_3_code 108 = .ok (.dup_x2, 1) := by decide +kernel
theorem d16_109 : decode prog_59_method_3_code 109 = .ok (.iconst 1, 1) := by decide +kernel
theorem d16_110 : decode prog_59_method_3_code 110 = .ok (.iadd, 1) := by decide +kernel
theorem d16_111 : decode prog_59_method_3_code 111 = .ok (.iastore, 1) := by decide +kernel
theorem d16_112 : decode prog_59_method_3_code 112 = .ok (.istore 10, 2) := by decide +kernel
theorem d16_114 : decode prog_59_method_3_code 114 = .ok (.aload_n 2, 1) := by decide +kernel
theorem d16_115 : decode prog_59_method_3_code 115 = .ok (.iload 10, 2) := by decide +kernel
theorem d16_117 : decode prog_59_method_3_code 117 = .ok (.aload_n 0, 1) := by decide +kernel
theorem d16_118 : decode prog_59_method_3_code 118 = .ok (.iload 9, 2) := by decide +kernel
theorem d16_120 : decode prog_59_method_3_code 120 = .ok (.laload, 1) := by decide +kernel
theorem d16_121 : decode prog_59_method_3_code 121 = .ok (.lastore, 1) := by decide +kernel
theorem d16_122 : decode prog_59_method_3_code 122 = .ok (.aload_n 3, 1) := by decide +kernel
theorem d16_123 : decode prog_59_method_3_code 123 = .ok (.ifnull 9, 3) := by decide +kernel
theorem d16_126 : decode prog_59_method_3_code 126 = .ok (.aload_n 3, 1) := by decide +kernel
theorem d16_127 : decode prog_59_method_3_code 127 = .ok (.iload 10, 2) := by decide +kernel
theorem d16_129 : decode prog_59_method_3_code 129 = .ok (.iload 9, 2) := by decide +kernel
theorem d16_131 : decode prog_59_method_3_code 131 = .ok (.iastore, 1) := by decide +kernel
theorem d16_132 : decode prog_59_method_3_code 132 = .ok (.iinc 9 1, 3) := by decide +kernel
theorem d16_135 : decode prog_59_method_3_code 135 = .ok (.goto (-48), 3) := by decide +kernel
theorem d16_138 : decode prog_59_method_3_code 138 = .ok (.aload_n 2, 1) := by decide +kernel
theorem d16_139 : decode prog_59_method_3_code 139 = .ok (.aload_n 3, 1) := by decide +kernel
theorem d16_140 : decode prog_59_method_3_code 140 = .ok (.aload 7, 2) := by decide +kernel
theorem d16_142 : decode prog_59_method_3_code 142 = .ok (.iload 6, 2) := by decide +kernel
theorem d16_144 : decode prog_59_method_3_code 144 = .ok (.invokestatic 41, 3) := by decide +kernel
theorem d16_147 : decode prog_59_method_3_code 147 = .ok (.return_, 1) := by decide +kernel
theorem pn_16 : plainName "com/example/strati/strati/sim/UnsignedKeys" = true := by first | (simp [plainName, overriddenIn]; done) | decide +kernel
theorem pd_16 : parseMethodDescriptor "([JI[J[I)V" = some ⟨[(.array .long), .int, (.array .long), (.array .int)], none⟩ := by decide +kernel
theorem ef_16z (m : MethodId) (x0 : Addr) (x2 : Addr) : entryFrame m #[(.ref x0), (.int (1 : Int32)), (.ref x2), .null] 11 = mkF m 0 #[.val (.ref x0), .val (.int (1 : Int32)), .val (.ref x2), .val .null, .unset, .unset, .unset, .unset, .unset, .unset, .unset] [] := by first | (simp [entryFrame, mkF, argsToLocals, Value.category]; done) | rfl
def own_F16z (Z : State) (x0 : Addr) (x2 : Addr) (K KB : Nat → Int64) (n0 : Nat) (h0 : Heap) (v : Option Value) (h : Heap) (L : List Loc) : Prop := v = none ∧ Fr n0 L ∧ Keep h0 h [x2] ∧ own_Ar Z h x2 .long 1 (fun uu => .long ((fun j => if j = 0 then K 0 else KB j) uu))
set_option maxRecDepth 65536 in
set_option maxHeartbeats 40000000 in
theorem own_m16z (l : Launch) (Z : State) (a0 : Array Value) (hw : ∀ d ∈ tables_1, d.before a0 Z = true) (ws : List Jvm.Cond) (x0 : Addr) (x2 : Addr) (K KB : Nat → Int64) (n0 : Nat) (h0 : Heap)  (Z0 : n0 ≤ h0.size) (RK : own_Ar Z h0 x0 .long 16 (fun uu => .long (K uu))) (RB : own_Ar Z h0 x2 .long 1 (fun uu => .long (KB uu))) (s1 : x0 ≠ x2) (gb : n0 ≤ x2) :
    MetFree l (⟨"com/example/strati/strati/sim/UnsignedKeys", "sortInto", "([JI[J[I)V"⟩ : MethodName) (head1 (Jvm.Cond.code (⟨"com/example/strati/strati/sim/UnsignedKeys", "sortInto", "([JI[J[I)V"⟩ : MethodName) prog_59_method_3_code 11 none :: ws) ({ frames := 3, cells := 0, slots := 0, locals := 46 } : Room)) (fun a U => a = #[(.ref x0), (.int (1 : Int32)), (.ref x2), .null] ∧ Z.Warmed39 U.vm ∧ U.heap = h0) (fun _ _ _ _ _ => True) (fun _ U o U' => ∃ v L, o = .returned v ∧ own_F16z Z x0 x2 K KB n0 h0 v U'.heap L ∧ FrameEnd U o U' L ({ frames := 3, cells := 0, slots := 0, locals := 46 } : Room).cells ({ frames := 3, cells := 0, slots := 0, locals := 46 } : Room).slots) := by
  refine MetFree.of_bodySF (plainFor_of_name pn_16) hisR ?_
  intro p e s m args below meth c s₁ Bd hml0 hP hK
  obtain ⟨rfl, hZ, hh⟩ := hP
  have hx := Bd.exec
  have hby := Bd.bytes
  have hml : c.maxLocals = 11 := hml0
  have hown : s.vm.findClass "com/example/strati/strati/sim/UnsignedKeys" = some m.cls := findClass_of_methodNamed Bd.named
  have hnm := (name_of_methodNamed Bd.named Bd.method).1
  have X0 : Stand p l e ({ frames := 3, cells := 0, slots := 0, locals := 46 } : Room) s m #[(.ref x0), (.int (1 : Int32)), (.ref x2), .null] below meth c s₁ [] 0 0 := Stand.of_body Bd
  have e0 : s₁.heap = h0 := by rw [← hh, Bd.state]; rfl
  have N0 := Fr.nil n0
  have K0 : Keep h0 h0 [x2] := Keep.refl h0 [x2]
  have hgo : own_Goes p e below s (own_F16z Z x0 x2 K KB n0 h0) 0 0 (s₁.setTop (mkF m 0 #[.val (.ref x0), .val (.int (1 : Int32)), .val (.ref x2), .val .null, .unset, .unset, .unset, .unset, .unset, .unset, .unset] [])) := by
    refine own_Goes.step (fun tq kq => XS.aloadN X0.here hx rfl (hb hby d16_0) rfl rfl kq) ?_
    show own_Goes _ _ _ _ _ _ _ (s₁.setTop (mkF m 1 #[.val (.ref x0), .val (.int (1 : Int32)), .val (.ref x2), .val .null, .unset, .unset, .unset, .unset, .unset, .unset, .unset] [(.ref x0)]))
    refine own_Goes.step (fun tq kq => XT.iconstV X0.here hx rfl (0 : Int32) (hb hby d16_1) (by decide) kq) ?_
    show own_Goes _ _ _ _ _ _ _ (s₁.setTop (mkF m 2 #[.val (.ref x0), .val (.int (1 : Int32)), .val (.ref x2), .val .null, .unset, .unset, .unset, .unset, .unset, .unset, .unset] [(.int (0 : Int32)), (.ref x0)]))
    refine own_Goes.step (fun tq kq => XS.iloadN X0.here hx rfl (hb hby d16_2) rfl kq) ?_
    show own_Goes _ _ _ _ _ _ _ (s₁.setTop (mkF m 3 #[.val (.ref x0), .val (.int (1 : Int32)), .val (.ref x2), .val .null, .unset, .unset, .unset, .unset, .unset, .unset, .unset] [(.int (1 : Int32)), (.int (0 : Int32)), (.ref x0)]))
    obtain ⟨w1, T1, L1, q1, Y1, st1⟩ := own_stat X0 hx hZ e0 hown (own_at hw 107 rfl) (own_at hw 108 rfl) (own_at hw 105 rfl) (own_at hw 109 rfl) (by decide) (own_m17 l Z a0 hw [] x0 K n0 h0 RK) (by decide) (W := 0) (by decide) (by decide) (by decide) (g := (mkF m 3 #[.val (.ref x0), .val (.int (1 : Int32)), .val (.ref x2), .val .null, .unset, .unset, .unset, .unset, .unset, .unset, .unset] [(.int (1 : Int32)), (.int (0 : Int32)), (.ref x0)])) rfl (by rw [hml]; rfl) (argsL := [(.ref x0), (.int (0 : Int32)), (.int (1 : Int32))]) (rest := []) (lenOf pd_17 rfl) rfl (by show 2 * 0 + _ ≤ _; exact Nat.le_of_eq rfl) (hb hby d16_3)
    obtain ⟨e1, X1⟩ := own_clean q1 Y1 rfl rfl
    obtain ⟨rfl, -, -⟩ := q1
    refine own_Goes.step st1 ?_
    show own_Goes _ _ _ _ _ _ _ (T1.setTop (mkF m 6 #[.val (.ref x0), .val (.int (1 : Int32)), .val (.ref x2), .val .null, .unset, .unset, .unset, .unset, .unset, .unset, .unset] [(.int (own_f17 K))]))
    refine own_Goes.step (fun tq kq => XS.istore X1.here hx rfl (hb hby d16_6) rfl (l' := #[.val (.ref x0), .val (.int (1 : Int32)), .val (.ref x2), .val .null, .val (.int (own_f17 K)), .unset, .unset, .unset, .unset, .unset, .unset]) rfl kq) ?_
    show own_Goes _ _ _ _ _ _ _ (T1.setTop (mkF m 8 #[.val (.ref x0), .val (.int (1 : Int32)), .val (.ref x2), .val .null, .val (.int (own_f17 K)), .unset, .unset, .unset, .unset, .unset, .unset] []))
    refine own_Goes.step (fun tq kq => XS.iload X1.here hx rfl (hb hby d16_8) rfl kq) ?_
    show own_Goes _ _ _ _ _ _ _ (T1.setTop (mkF m 10 #[.val (.ref x0), .val (.int (1 : Int32)), .val (.ref x2), .val .null, .val (.int (own_f17 K)), .unset, .unset, .unset, .unset, .unset, .unset] [(.int (own_f17 K))]))
    refine own_Goes.step (fun tq kq => XS.ifNo X1.here hx rfl (hb hby d16_10) rfl (XT.i0_ne_f (own_diff0 K)) kq) ?_
    show own_Goes _ _ _ _ _ _ _ (T1.setTop (mkF m 13 #[.val (.ref x0), .val (.int (1 : Int32)), .val (.ref x2), .val .null, .val (.int (own_f17 K)), .unset, .unset, .unset, .unset, .unset, .unset] []))
    refine own_Goes.step (fun tq kq => XS.aloadN X1.here hx rfl (hb hby d16_13) rfl rfl kq) ?_
    show own_Goes _ _ _ _ _ _ _ (T1.setTop (mkF m 14 #[.val (.ref x0), .val (.int (1 : Int32)), .val (.ref x2), .val .null, .val (.int (own_f17 K)), .unset, .unset, .unset, .unset, .unset, .unset] [(.ref x0)]))
    refine own_Goes.step (fun tq kq => XT.iconstV X1.here hx rfl (0 : Int32) (hb hby d16_14) (by decide) kq) ?_
    show own_Goes _ _ _ _ _ _ _ (T1.setTop (mkF m 15 #[.val (.ref x0), .val (.int (1 : Int32)), .val (.ref x2), .val .null, .val (.int (own_f17 K)), .unset, .unset, .unset, .unset, .unset, .unset] [(.int (0 : Int32)), (.ref x0)]))
    refine own_Goes.step (fun tq kq => XS.aloadN X1.here hx rfl (hb hby d16_15) rfl rfl kq) ?_
    show own_Goes _ _ _ _ _ _ _ (T1.setTop (mkF m 16 #[.val (.ref x0), .val (.int (1 : Int32)), .val (.ref x2), .val .null, .val (.int (own_f17 K)), .unset, .unset, .unset, .unset, .unset, .unset] [(.ref x2), (.int (0 : Int32)), (.ref x0)]))
    refine own_Goes.step (fun tq kq => XT.iconstV X1.here hx rfl (0 : Int32) (hb hby d16_16) (by decide) kq) ?_
    show own_Goes _ _ _ _ _ _ _ (T1.setTop (mkF m 17 #[.val (.ref x0), .val (.int (1 : Int32)), .val (.ref x2), .val .null, .val (.int (own_f17 K)), .unset, .unset, .unset, .unset, .unset, .unset] [(.int (0 : Int32)), (.ref x2), (.int (0 : Int32)), (.ref x0)]))
    refine own_Goes.step (fun tq kq => XS.iloadN X1.here hx rfl (hb hby d16_17) rfl kq) ?_
    show own_Goes _ _ _ _ _ _ _ (T1.setTop (mkF m 18 #[.val (.ref x0), .val (.int (1 : Int32)), .val (.ref x2), .val .null, .val (.int (own_f17 K)), .unset, .unset, .unset, .unset, .unset, .unset] [(.int (1 : Int32)), (.int (0 : Int32)), (.ref x2), (.int (0 : Int32)), (.ref x0)]))
    obtain ⟨T2, h2, X2, e2, W2, st2⟩ := own_acp1 X1 hx hZ e1 RK RB (by decide) (by decide) hown (own_at hw 118 rfl) (own_at hw 121 rfl) (own_at hw 119 rfl) (own_at hw 120 rfl) (g := (mkF m 18 #[.val (.ref x0), .val (.int (1 : Int32)), .val (.ref x2), .val .null, .val (.int (own_f17 K)), .unset, .unset, .unset, .unset, .unset, .unset] [(.int (1 : Int32)), (.int (0 : Int32)), (.ref x2), (.int (0 : Int32)), (.ref x0)])) rfl (by rw [hml]; rfl) rfl (hb hby d16_18) (by decide) (by show 2 * 0 + _ ≤ _; decide)
    refine own_Goes.step st2 ?_
    have f3 := RK.other W2 s1
    have f4 : own_Ar Z h2 x2 .long 1 (fun uu => .long ((fun j => if j = 0 then K 0 else KB j) uu)) := (RB.set W2).congr fun j _ => by dsimp only; exact (apply_ite Value.long _ _ _).symm
    have K5 := K0.wr W2 (Or.inl (List.mem_of_getElem? (i := 0) rfl))
    have N6 := Fr.snoc X2 N0 gb
    have Z7 : n0 ≤ h2.size := Nat.le_trans Z0 (Keep.of_wr W2).1
    show own_Goes _ _ _ _ _ _ _ (T2.setTop (mkF m 21 #[.val (.ref x0), .val (.int (1 : Int32)), .val (.ref x2), .val .null, .val (.int (own_f17 K)), .unset, .unset, .unset, .unset, .unset, .unset] []))
    refine own_Goes.step (fun tq kq => XS.aloadN X2.here hx rfl (hb hby d16_21) rfl rfl kq) ?_
    show own_Goes _ _ _ _ _ _ _ (T2.setTop (mkF m 22 #[.val (.ref x0), .val (.int (1 : Int32)), .val (.ref x2), .val .null, .val (.int (own_f17 K)), .unset, .unset, .unset, .unset, .unset, .unset] [.null]))
    refine own_Goes.step (fun tq kq => XS.ifnullYes X2.here hx rfl (pc0 := 22) (pc' := 46) rfl (hb hby d16_22) rfl (by decide) (by decide) kq) ?_
    show own_Goes _ _ _ _ _ _ _ (T2.setTop (mkF m 46 #[.val (.ref x0), .val (.int (1 : Int32)), .val (.ref x2), .val .null, .val (.int (own_f17 K)), .unset, .unset, .unset, .unset, .unset, .unset] []))
    refine own_endV X2 hx Bd.notSynchronized Bd.returns (hb hby d16_46) ?_ (by decide) (by decide)
    show own_F16z Z x0 x2 K KB n0 h0 _ T2.heap _
    rw [e2]
    exact ⟨rfl, N6, K5, f4⟩
  obtain ⟨t2, o2, q1, q2, q3, q4⟩ := hgo
  exact ⟨t2, o2, castTop (ef_16z m x0 x2) q1, q2, q3, q4⟩
theorem ef_16o (m : MethodId) (x0 : Addr) (x2 : Addr) (x3 : Addr) : entryFrame m #[(.ref x0), (.int (1 : Int32)), (.ref x2), (.ref x3)] 11 = mkF m 0 #[.val (.ref x0), .val (.int (1 : Int32)), .val (.ref x2), .val (.ref x3), .unset, .unset, .unset, .unset, .unset, .unset, .unset] [] := by first | (simp [entryFrame, mkF, argsToLocals, Value.category]; done) | rfl
def own_F16o (Z : State) (x0 : Addr) (x2 : Addr) (x3 : Addr) (K KB : Nat → Int64) (PP : Nat → Int32) (n0 : Nat) (h0 : Heap) (v : Option Value) (h : Heap) (L : List Loc) : Prop := v = none ∧ Fr n0 L ∧ Keep h0 h [x2, x3] ∧ own_Ar Z h x2 .long 1 (fun uu => .long ((fun j => if j = 0 then K 0 else KB j) uu)) ∧ own_Ar Z h x3 .int 16 (fun uu => .int ((fun j => if j = 0 then (0 : Int32) else PP j) uu))
set_option maxRecDepth 65536 in
set_option maxHeartbeats 40000000 in
theorem own_m16o (l : Launch) (Z : State) (a0 : Array Value) (hw : ∀ d ∈ tables_1, d.before a0 Z = true) (ws : List Jvm.Cond) (x0 : Addr) (x2 : Addr) (x3 : Addr) (K KB : Nat → Int64) (PP : Nat → Int32) (n0 : Nat) (h0 : Heap)  (Z0 : n0 ≤ h0.size) (RK : own_Ar Z h0 x0 .long 16 (fun uu => .long (K uu))) (RB : own_Ar Z h0 x2 .long 1 (fun uu => .long (KB uu))) (s1 : x0 ≠ x2) (gb : n0 ≤ x2) (RP : own_Ar Z h0 x3 .int 16 (fun uu => .int (PP uu))) (s2 : x0 ≠ x3) (s3 : x2 ≠ x3) (gp : n0 ≤ x3) :
    MetFree l (⟨"com/example/strati/strati/sim/UnsignedKeys", "sortInto", "([JI[J[I)V"⟩ : MethodName) (head1 (Jvm.Cond.code (⟨"com/example/strati/strati/sim/UnsignedKeys", "sortInto", "([JI[J[I)V"⟩ : MethodName) prog_59_method_3_code 11 none :: ws) ({ frames := 3, cells := 0, slots := 0, locals := 46 } : Room)) (fun a U => a = #[(.ref x0), (.int (1 : Int32)), (.ref x2), (.ref x3)] ∧ Z.Warmed39 U.vm ∧ U.heap = h0) (fun _ _ _ _ _ => True) (fun _ U o U' => ∃ v L, o = .returned v ∧ own_F16o Z x0 x2 x3 K KB PP n0 h0 v U'.heap L ∧ FrameEnd U o U' L ({ frames := 3, cells := 0, slots := 0, locals := 46 } : Room).cells ({ frames := 3, cells := 0, slots := 0, locals := 46 } : Room).slots) := by
  refine MetFree.of_bodySF (plainFor_of_name pn_16) hisR ?_
  intro p e s m args below meth c s₁ Bd hml0 hP hK
  obtain ⟨rfl, hZ, hh⟩ := hP
  have hx := Bd.exec
  have hby := Bd.bytes
  have hml : c.maxLocals = 11 := hml0
  have hown : s.vm.findClass "com/example/strati/strati/sim/UnsignedKeys" = some m.cls := findClass_of_methodNamed Bd.named
  have hnm := (name_of_methodNamed Bd.named Bd.method).1
  have X0 : Stand p l e ({ frames := 3, cells := 0, slots := 0, locals := 46 } : Room) s m #[(.ref x0), (.int (1 : Int32)), (.ref x2), (.ref x3)] below meth c s₁ [] 0 0 := Stand.of_body Bd
  have e0 : s₁.heap = h0 := by rw [← hh, Bd.state]; rfl
  have N0 := Fr.nil n0
  have K0 : Keep h0 h0 [x2, x3] := Keep.refl h0 [x2, x3]
  have hgo : own_Goes p e below s (own_F16o Z x0 x2 x3 K KB PP n0 h0) 0 0 (s₁.setTop (mkF m 0 #[.val (.ref x0), .val (.int (1 : Int32)), .val (.ref x2), .val (.ref x3), .unset, .unset, .unset, .unset, .unset, .unset, .unset] [])) := by
    refine own_Goes.step (fun tq kq => XS.aloadN X0.here hx rfl (hb hby d16_0) rfl rfl kq) ?_
    show own_Goes _ _ _ _ _ _ _ (s₁.setTop (mkF m 1 #[.val (.ref x0), .val (.int (1 : Int32)), .val (.ref x2), .val (.ref x3), .unset, .unset, .unset, .unset, .unset, .unset, .unset] [(.ref x0)]))
    refine own_Goes.step (fun tq kq => XT.iconstV X0.here hx rfl (0 : Int32) (hb hby d16_1) (by decide) kq) ?_
    show own_Goes _ _ _ _ _ _ _ (s₁.setTop (mkF m 2 #[.val (.ref x0), .val (.int (1 : Int32)), .val (.ref x2), .val (.ref x3), .unset, .unset, .unset, .unset, .unset, .unset, .unset] [(.int (0 : Int32)), (.ref x0)]))
    refine own_Goes.step (fun tq kq => XS.iloadN X0.here hx rfl (hb hby d16_2) rfl kq) ?_
    show own_Goes _ _ _ _ _ _ _ (s₁.setTop (mkF m 3 #[.val (.ref x0), .val (.int (1 : Int32)), .val (.ref x2), .val (.ref x3), .unset, .unset, .unset, .unset, .unset, .unset, .unset] [(.int (1 : Int32)), (.int (0 : Int32)), (.ref x0)]))
    obtain ⟨w1, T1, L1, q1, Y1, st1⟩ := own_stat X0 hx hZ e0 hown (own_at hw 107 rfl) (own_at hw 108 rfl) (own_at hw 105 rfl) (own_at hw 109 rfl) (by decide) (own_m17 l Z a0 hw [] x0 K n0 h0 RK) (by decide) (W := 0) (by decide) (by decide) (by decide) (g := (mkF m 3 #[.val (.ref x0), .val (.int (1 : Int32)), .val (.ref x2), .val (.ref x3), .unset, .unset, .unset, .unset, .unset, .unset, .unset] [(.int (1 : Int32)), (.int (0 : Int32)), (.ref x0)])) rfl (by rw [hml]; rfl) (argsL := [(.ref x0), (.int (0 : Int32)), (.int (1 : Int32))]) (rest := []) (lenOf pd_17 rfl) rfl (by show 2 * 0 + _ ≤ _; exact Nat.le_of_eq rfl) (hb hby d16_3)
    obtain ⟨e1, X1⟩ := own_clean q1 Y1 rfl rfl
    obtain ⟨rfl, -, -⟩ := q1
    refine own_Goes.step st1 ?_
    show own_Goes _ _ _ _ _ _ _ (T1.setTop (mkF m 6 #[.val (.ref x0), .val (.int (1 : Int32)), .val (.ref x2), .val (.ref x3), .unset, .unset, .unset, .unset, .unset, .unset, .unset] [(.int (own_f17 K))]))
    refine own_Goes.step (fun tq kq => XS.istore X1.here hx rfl (hb hby d16_6) rfl (l' := #[.val (.ref x0), .val (.int (1 : Int32)), .val (.ref x2), .val (.ref x3), .val (.int (own_f17 K)), .unset, .unset, .unset, .unset, .unset, .unset]) rfl kq) ?_
    show own_Goes _ _ _ _ _ _ _ (T1.setTop (mkF m 8 #[.val (.ref x0), .val (.int (1 : Int32)), .val (.ref x2), .val (.ref x3), .val (.int (own_f17 K)), .unset, .unset, .unset, .unset, .unset, .unset] []))
    refine own_Goes.step (fun tq kq => XS.iload X1.here hx rfl (hb hby d16_8) rfl kq) ?_
    show own_Goes _ _ _ _ _ _ _ (T1.setTop (mkF m 10 #[.val (.ref x0), .val (.int (1 : Int32)), .val (.ref x2), .val (.ref x3), .val (.int (own_f17 K)), .unset, .unset, .unset, .unset, .unset, .unset] [(.int (own_f17 K))]))
    refine own_Goes.step (fun tq kq => XS.ifNo X1.here hx rfl (hb hby d16_10) rfl (XT.i0_ne_f (own_diff0 K)) kq) ?_
    show own_Goes _ _ _ _ _ _ _ (T1.setTop (mkF m 13 #[.val (.ref x0), .val (.int (1 : Int32)), .val (.ref x2), .val (.ref x3), .val (.int (own_f17 K)), .unset, .unset, .unset, .unset, .unset, .unset] []))
    refine own_Goes.step (fun tq kq => XS.aloadN X1.here hx rfl (hb hby d16_13) rfl rfl kq) ?_
    show own_Goes _ _ _ _ _ _ _ (T1.setTop (mkF m 14 #[.val (.ref x0), .val (.int (1 : Int32)), .val (.ref x2), .val (.ref x3), .val (.int (own_f17 K)), .unset, .unset, .unset, .unset, .unset, .unset] [(.ref x0)]))
    refine own_Goes.step (fun tq kq => XT.iconstV X1.here hx rfl (0 : Int32) (hb hby d16_14) (by decide) kq) ?_
    show own_Goes _ _ _ _ _ _ _ (T1.setTop (mkF m 15 #[.val (.ref x0), .val (.int (1 : Int32)), .val (.ref x2), .val (.ref x3), .val (.int (own_f17 K)), .unset, .unset, .unset, .unset, .unset, .unset] [(.int (0 : Int32)), (.ref x0)]))
    refine own_Goes.step (fun tq kq => XS.aloadN X1.here hx rfl (hb hby d16_15) rfl rfl kq) ?_
    show own_Goes _ _ _ _ _ _ _ (T1.setTop (mkF m 16 #[.val (.ref x0), .val (.int (1 : Int32)), .val (.ref x2), .val (.ref x3), .val (.int (own_f17 K)), .unset, .unset, .unset, .unset, .unset, .unset] [(.ref x2), (.int (0 : Int32)), (.ref x0)]))
    refine own_Goes.step (fun tq kq => XT.iconstV X1.here hx rfl (0 : Int32) (hb hby d16_16) (by decide) kq) ?_
    show own_Goes _ _ _ _ _ _ _ (T1.setTop (mkF m 17 #[.val (.ref x0), .val (.int (1 : Int32)), .val (.ref x2), .val (.ref x3), .val (.int (own_f17 K)), .unset, .unset, .unset, .unset, .unset, .unset] [(.int (0 : Int32)), (.ref x2), (.int (0 : Int32)), (.ref x0)]))
    refine own_Goes.step (fun tq kq => XS.iloadN X1.here hx rfl (hb hby d16_17) rfl kq) ?_
    show own_Goes _ _ _ _ _ _ _ (T1.setTop (mkF m 18 #[.val (.ref x0), .val (.int (1 : Int32)), .val (.ref x2), .val (.ref x3), .val (.int (own_f17 K)), .unset, .unset, .unset, .unset, .unset, .unset] [(.int (1 : Int32)), (.int (0 : Int32)), (.ref x2), (.int (0 : Int32)), (.ref x0)]))
    obtain ⟨T2, h2, X2, e2, W2, st2⟩ := own_acp1 X1 hx hZ e1 RK RB (by decide) (by decide) hown (own_at hw 118 rfl) (own_at hw 121 rfl) (own_at hw 119 rfl) (own_at hw 120 rfl) (g := (mkF m 18 #[.val (.ref x0), .val (.int (1 : Int32)), .val (.ref x2), .val (.ref x3), .val (.int (own_f17 K)), .unset, .unset, .unset, .unset, .unset, .unset] [(.int (1 : Int32)), (.int (0 : Int32)), (.ref x2), (.int (0 : Int32)), (.ref x0)])) rfl (by rw [hml]; rfl) rfl (hb hby d16_18) (by decide) (by show 2 * 0 + _ ≤ _; decide)
    refine own_Goes.step st2 ?_
    have f3 := RK.other W2 s1
    have f4 : own_Ar Z h2 x2 .long 1 (fun uu => .long ((fun j => if j = 0 then K 0 else KB j) uu)) := (RB.set W2).congr fun j _ => by dsimp only; exact (apply_ite Value.long _ _ _).symm
    have f5 := RP.other W2 (Ne.symm s3)
    have K6 := K0.wr W2 (Or.inl (List.mem_of_getElem? (i := 0) rfl))
    have N7 := Fr.snoc X2 N0 gb
    have Z8 : n0 ≤ h2.size := Nat.le_trans Z0 (Keep.of_wr W2).1
    show own_Goes _ _ _ _ _ _ _ (T2.setTop (mkF m 21 #[.val (.ref x0), .val (.int (1 : Int32)), .val (.ref x2), .val (.ref x3), .val (.int (own_f17 K)), .unset, .unset, .unset, .unset, .unset, .unset] []))
    refine own_Goes.step (fun tq kq => XS.aloadN X2.here hx rfl (hb hby d16_21) rfl rfl kq) ?_
    show own_Goes _ _ _ _ _ _ _ (T2.setTop (mkF m 22 #[.val (.ref x0), .val (.int (1 : Int32)), .val (.ref x2), .val (.ref x3), .val (.int (own_f17 K)), .unset, .unset, .unset, .unset, .unset, .unset] [(.ref x3)]))
    refine own_Goes.step (fun tq kq => XS.ifnullNo X2.here hx rfl (hb hby d16_22) rfl kq) ?_
    show own_Goes _ _ _ _ _ _ _ (T2.setTop (mkF m 25 #[.val (.ref x0), .val (.int (1 : Int32)), .val (.ref x2), .val (.ref x3), .val (.int (own_f17 K)), .unset, .unset, .unset, .unset, .unset, .unset] []))
    refine own_Goes.step (fun tq kq => XT.iconstV X2.here hx rfl (0 : Int32) (hb hby d16_25) (by decide) kq) ?_
    show own_Goes _ _ _ _ _ _ _ (T2.setTop (mkF m 26 #[.val (.ref x0), .val (.int (1 : Int32)), .val (.ref x2), .val (.ref x3), .val (.int (own_f17 K)), .unset, .unset, .unset, .unset, .unset, .unset] [(.int (0 : Int32))]))
    refine own_Goes.step (fun tq kq => XS.istore X2.here hx rfl (hb hby d16_26) rfl (l' := #[.val (.ref x0), .val (.int (1 : Int32)), .val (.ref x2), .val (.ref x3), .val (.int (own_f17 K)), .val (.int (0 : Int32)), .unset, .unset, .unset, .unset, .unset]) rfl kq) ?_
    show own_Goes _ _ _ _ _ _ _ (T2.setTop (mkF m 28 #[.val (.ref x0), .val (.int (1 : Int32)), .val (.ref x2), .val (.ref x3), .val (.int (own_f17 K)), .val (.int (0 : Int32)), .unset, .unset, .unset, .unset, .unset] []))
    refine own_Goes.step (fun tq kq => XS.iload X2.here hx rfl (hb hby d16_28) rfl kq) ?_
    show own_Goes _ _ _ _ _ _ _ (T2.setTop (mkF m 30 #[.val (.ref x0), .val (.int (1 : Int32)), .val (.ref x2), .val (.ref x3), .val (.int (own_f17 K)), .val (.int (0 : Int32)), .unset, .unset, .unset, .unset, .unset] [(.int (0 : Int32))]))
    refine own_Goes.step (fun tq kq => XS.iloadN X2.here hx rfl (hb hby d16_30) rfl kq) ?_
    show own_Goes _ _ _ _ _ _ _ (T2.setTop (mkF m 31 #[.val (.ref x0), .val (.int (1 : Int32)), .val (.ref x2), .val (.ref x3), .val (.int (own_f17 K)), .val (.int (0 : Int32)), .unset, .unset, .unset, .unset, .unset] [(.int (1 : Int32)), (.int (0 : Int32))]))
    refine own_Goes.step (fun tq kq => XS.icmpNo X2.here hx rfl (hb hby d16_31) rfl (XT.ii_ge_f (by decide)) kq) ?_
    show own_Goes _ _ _ _ _ _ _ (T2.setTop (mkF m 34 #[.val (.ref x0), .val (.int (1 : Int32)), .val (.ref x2), .val (.ref x3), .val (.int (own_f17 K)), .val (.int (0 : Int32)), .unset, .unset, .unset, .unset, .unset] []))
    refine own_Goes.step (fun tq kq => XS.aloadN X2.here hx rfl (hb hby d16_34) rfl rfl kq) ?_
    show own_Goes _ _ _ _ _ _ _ (T2.setTop (mkF m 35 #[.val (.ref x0), .val (.int (1 : Int32)), .val (.ref x2), .val (.ref x3), .val (.int (own_f17 K)), .val (.int (0 : Int32)), .unset, .unset, .unset, .unset, .unset] [(.ref x3)]))
    refine own_Goes.step (fun tq kq => XS.iload X2.here hx rfl (hb hby d16_35) rfl kq) ?_
    show own_Goes _ _ _ _ _ _ _ (T2.setTop (mkF m 37 #[.val (.ref x0), .val (.int (1 : Int32)), .val (.ref x2), .val (.ref x3), .val (.int (own_f17 K)), .val (.int (0 : Int32)), .unset, .unset, .unset, .unset, .unset] [(.int (0 : Int32)), (.ref x3)]))
    refine own_Goes.step (fun tq kq => XS.iload X2.here hx rfl (hb hby d16_37) rfl kq) ?_
    show own_Goes _ _ _ _ _ _ _ (T2.setTop (mkF m 39 #[.val (.ref x0), .val (.int (1 : Int32)), .val (.ref x2), .val (.ref x3), .val (.int (own_f17 K)), .val (.int (0 : Int32)), .unset, .unset, .unset, .unset, .unset] [(.int (0 : Int32)), (.int (0 : Int32)), (.ref x3)]))
    obtain ⟨T10, h10, X10, e10, W10, st10⟩ := own_iast X2 hx hZ e2 f5 (i := 0) rfl (by decide) (g := (mkF m 39 #[.val (.ref x0), .val (.int (1 : Int32)), .val (.ref x2), .val (.ref x3), .val (.int (own_f17 K)), .val (.int (0 : Int32)), .unset, .unset, .unset, .unset, .unset] [(.int (0 : Int32)), (.int (0 : Int32)), (.ref x3)])) rfl rfl (hb hby d16_39)
    refine own_Goes.step st10 ?_
    have f11 := f3.other W10 s2
    have f12 := f4.other W10 s3
    have f13 : own_Ar Z h10 x3 .int 16 (fun uu => .int ((fun j => if j = 0 then (0 : Int32) else PP j) uu)) := (f5.set W10).congr fun j _ => by dsimp only; exact (apply_ite Value.int _ _ _).symm
    have K14 := K6.wr W10 (Or.inl (List.mem_of_getElem? (i := 1) rfl))
    have N15 := Fr.snoc X10 N7 gp
    have Z16 : n0 ≤ h10.size := Nat.le_trans Z8 (Keep.of_wr W10).1
    show own_Goes _ _ _ _ _ _ _ (T10.setTop (mkF m 40 #[.val (.ref x0), .val (.int (1 : Int32)), .val (.ref x2), .val (.ref x3), .val (.int (own_f17 K)), .val (.int (0 : Int32)), .unset, .unset, .unset, .unset, .unset] []))
    refine own_Goes.step (fun tq kq => XT.iincV X10.here hx rfl (1 : Int32) (hb hby d16_40) (by decide) rfl (l' := #[.val (.ref x0), .val (.int (1 : Int32)), .val (.ref x2), .val (.ref x3), .val (.int (own_f17 K)), .val (.int (1 : Int32)), .unset, .unset, .unset, .unset, .unset]) rfl kq) ?_
    show own_Goes _ _ _ _ _ _ _ (T10.setTop (mkF m 43 #[.val (.ref x0), .val (.int (1 : Int32)), .val (.ref x2), .val (.ref x3), .val (.int (own_f17 K)), .val (.int (1 : Int32)), .unset, .unset, .unset, .unset, .unset] []))
    refine own_Goes.step (fun tq kq => XS.goto X10.here hx rfl (pc0 := 43) (pc' := 28) rfl (hb hby d16_43) (by decide) (by decide) kq) ?_
    show own_Goes _ _ _ _ _ _ _ (T10.setTop (mkF m 28 #[.val (.ref x0), .val (.int (1 : Int32)), .val (.ref x2), .val (.ref x3), .val (.int (own_f17 K)), .val (.int (1 : Int32)), .unset, .unset, .unset, .unset, .unset] []))
    refine own_Goes.step (fun tq kq => XS.iload X10.here hx rfl (hb hby d16_28) rfl kq) ?_
    show own_Goes _ _ _ _ _ _ _ (T10.setTop (mkF m 30 #[.val (.ref x0), .val (.int (1 : Int32)), .val (.ref x2), .val (.ref x3), .val (.int (own_f17 K)), .val (.int (1 : Int32)), .unset, .unset, .unset, .unset, .unset] [(.int (1 : Int32))]))
    refine own_Goes.step (fun tq kq => XS.iloadN X10.here hx rfl (hb hby d16_30) rfl kq) ?_
    show own_Goes _ _ _ _ _ _ _ (T10.setTop (mkF m 31 #[.val (.ref x0), .val (.int (1 : Int32)), .val (.ref x2), .val (.ref x3), .val (.int (own_f17 K)), .val (.int (1 : Int32)), .unset, .unset, .unset, .unset, .unset] [(.int (1 : Int32)), (.int (1 : Int32))]))
    refine own_Goes.step (fun tq kq => XS.icmpYes X10.here hx rfl (pc0 := 31) (pc' := 46) rfl (hb hby d16_31) rfl (XT.ii_ge_t (by decide)) (by decide) (by decide) kq) ?_
    show own_Goes _ _ _ _ _ _ _ (T10.setTop (mkF m 46 #[.val (.ref x0), .val (.int (1 : Int32)), .val (.ref x2), .val (.ref x3), .val (.int (own_f17 K)), .val (.int (1 : Int32)), .unset, .unset, .unset, .unset, .unset] []))
    refine own_endV X10 hx Bd.notSynchronized Bd.returns (hb hby d16_46) ?_ (by decide) (by decide)
    show own_F16o Z x0 x2 x3 K KB PP n0 h0 _ T10.heap _
    rw [e10]
    exact ⟨rfl, N15, K14, f12, f13⟩
  obtain ⟨t2, o2, q1, q2, q3, q4⟩ := hgo
  exact ⟨t2, o2, castTop (ef_16o m x0 x2 x3) q1, q2, q3, q4⟩
theorem d26_0 : decode jdk_31_method_10_code 0 = .ok (.aload_n 0, 1) := by decide +kernel
theorem d26_1 : decode jdk_31_method_10_code 1 = .ok (.ifnonnull 11, 3) := by decide +kernel
theorem d26_4 : decode jdk_31_method_10_code 4 = .ok (.new 84, 3) := by decide +kernel
theorem d26_7 : decode jdk_31_method_10_code 7 = .ok (.dup, 1) := by decide +kernel
theorem d26_8 : decode jdk_31_method_10_code 8 = .ok (.invokespecial 86, 3) := by decide +kernel
theorem d26_11 : decode jdk_31_method_10_code 11 = .ok (.athrow, 1) := by decide +kernel
theorem d26_12 : decode jdk_31_method_10_code 12 = .ok (.aload_n 0, 1) := by decide +kernel
theorem d26_13 : decode jdk_31_method_10_code 13 = .ok (.areturn, 1) := by decide +kernel
theorem pn_26 : plainName "java/util/Objects" = true := by first | (simp [plainName, overriddenIn]; done) | decide +kernel
theorem pd_26 : parseMethodDescriptor "(Ljava/lang/Object;)Ljava/lang/Object;" = some ⟨[(.object "java/lang/Object")], (some (.object "java/lang/Object"))⟩ := by decide +kernel
theorem ef_26 (m : MethodId) (x0 : Addr) : entryFrame m #[(.ref x0)] 1 = mkF m 0 #[.val (.ref x0)] [] := by first | (simp [entryFrame, mkF, argsToLocals, Value.category]; done) | rfl
def own_F26 (Z : State) (x0 : Addr)  (n0 : Nat) (h0 : Heap) (v : Option Value) (h : Heap) (L : List Loc) : Prop := v = some (.ref x0) ∧ L = [] ∧ h = h0
set_option maxRecDepth 65536 in
set_option maxHeartbeats 40000000 in
theorem own_m26 (l : Launch) (Z : State) (a0 : Array Value) (hw : ∀ d ∈ tables_1, d.before a0 Z = true) (ws : List Jvm.Cond) (x0 : Addr)  (n0 : Nat) (h0 : Heap)   :
    MetFree l (⟨"java/util/Objects", "requireNonNull", "(Ljava/lang/Object;)Ljava/lang/Object;"⟩ : MethodName) (head1 (Jvm.Cond.code (⟨"java/util/Objects", "requireNonNull", "(Ljava/lang/Object;)Ljava/lang/Object;"⟩ : MethodName) jdk_31_method_10_code 1 (some (.object "java/lang/Object")) :: ws) ({ frames := 0, cells := 0, slots := 0, locals := 0 } : Room)) (fun a U => a = #[(.ref x0)] ∧ Z.Warmed39 U.vm ∧ U.heap = h0) (fun _ _ _ _ _ => True) (fun _ U o U' => ∃ v L, o = .returned v ∧ own_F26 Z x0 n0 h0 v U'.heap L ∧ FrameEnd U o U' L ({ frames := 0, cells := 0, slots := 0, locals := 0 } : Room).cells ({ frames := 0, cells := 0, slots := 0, locals := 0 } : Room).slots) := by
  refine MetFree.of_bodySF (plainFor_of_name pn_26) hisR ?_
  intro p e s m args below meth c s₁ Bd hml0 hP hK
  obtain ⟨rfl, hZ, hh⟩ := hP
  have hx := Bd.exec
  have hby := Bd.bytes
  have hml : c.maxLocals = 1 := hml0
  have hown : s.vm.findClass "java/util/Objects" = some m.cls := findClass_of_methodNamed Bd.named
  have hnm := (name_of_methodNamed Bd.named Bd.method).1
  have X0 : Stand p l e ({ frames := 0, cells := 0, slots := 0, locals := 0 } : Room) s m #[(.ref x0)] below meth c s₁ [] 0 0 := Stand.of_body Bd
  have e0 : s₁.heap = h0 := by rw [← hh, Bd.state]; rfl
  have N0 := Fr.nil n0
  have K0 : Keep h0 h0 [] := Keep.refl h0 []
  have hgo : own_Goes p e below s (own_F26 Z x0 n0 h0) 0 0 (s₁.setTop (mkF m 0 #[.val (.ref x0)] [])) := by
    refine own_Goes.step (fun tq kq => XS.aloadN X0.here hx rfl (hb hby d26_0) rfl rfl kq) ?_
    show own_Goes _ _ _ _ _ _ _ (s₁.setTop (mkF m 1 #[.val (.ref x0)] [(.ref x0)]))
    refine own_Goes.step (fun tq kq => XT.ifnonnullYes X0.here hx rfl (pc0 := 1) (pc' := 12) rfl (hb hby d26_1) rfl (by decide) (by decide) kq) ?_
    show own_Goes _ _ _ _ _ _ _ (s₁.setTop (mkF m 12 #[.val (.ref x0)] []))
    refine own_Goes.step (fun tq kq => XS.aloadN X0.here hx rfl (hb hby d26_12) rfl rfl kq) ?_
    show own_Goes _ _ _ _ _ _ _ (s₁.setTop (mkF m 13 #[.val (.ref x0)] [(.ref x0)]))
    refine own_endA X0 hx Bd.notSynchronized rfl Bd.returns rfl (hb hby d26_13) ?_ (by decide) (by decide)
    show own_F26 Z x0 n0 h0 _ s₁.heap _
    rw [e0]
    exact ⟨rfl, rfl, rfl⟩
  obtain ⟨t2, o2, q1, q2, q3, q4⟩ := hgo
  exact ⟨t2, o2, castTop (ef_26 m x0) q1, q2, q3, q4⟩
theorem d27_0 : decode jdk_32_method_2_code 0 = .ok (.aload_n 0, 1) := by decide +kernel
theorem d27_1 : decode jdk_32_method_2_code 1 = .ok (.invokespecial 7, 3) := by decide +kernel
theorem d27_4 : decode jdk_32_method_2_code 4 = .ok (.aload_n 0, 1) := by decide +kernel
theorem d27_5 : decode jdk_32_method_2_code 5 = .ok (.aload_n 1, 1) := by decide +kernel
theorem d27_6 : decode jdk_32_method_2_code 6 = .ok (.putfield 13, 3) := by decide +kernel
theorem d27_9 : decode jdk_32_method_2_code 9 = .ok (.return_, 1) := by decide +kernel
theorem pn_27 : plainName "java/util/Optional" = true := by first | (simp [plainName, overriddenIn]; done) | decide +kernel
theorem pd_27 : parseMethodDescriptor "(Ljava/lang/Object;)V" = some ⟨[(.object "java/lang/Object")], none⟩ := by decide +kernel
theorem ef_27 (m : MethodId) (x0 : Addr) (x1 : Addr) : entryFrame m #[(.ref x0), (.ref x1)] 2 = mkF m 0 #[.val (.ref x0), .val (.ref x1)] [] := by first | (simp [entryFrame, mkF, argsToLocals, Value.category]; done) | rfl
def own_F27 (Z : State) (x0 : Addr) (x1 : Addr)  (n0 : Nat) (h0 : Heap) (v : Option Value) (h : Heap) (L : List Loc) : Prop := v = none ∧ Fr n0 L ∧ Keep h0 h [x0]
set_option maxRecDepth 65536 in
set_option maxHeartbeats 40000000 in
theorem own_m27 (l : Launch) (Z : State) (a0 : Array Value) (hw : ∀ d ∈ tables_1, d.before a0 Z = true) (ws : List Jvm.Cond) (x0 : Addr) (x1 : Addr)  (n0 : Nat) (h0 : Heap)  (E0 : Exa Z h0 x0 "java/util/Optional") (g0 : n0 ≤ x0) (P0 : Fld Z h0 x0 "java/util/Optional" "value" "Ljava/lang/Object;" .null) :
    MetFree l (⟨"java/util/Optional", "<init>", "(Ljava/lang/Object;)V"⟩ : MethodName) (head1 (Jvm.Cond.code (⟨"java/util/Optional", "<init>", "(Ljava/lang/Object;)V"⟩ : MethodName) jdk_32_method_2_code 2 none :: ws) ({ frames := 1, cells := 0, slots := 0, locals := 12 } : Room)) (fun a U => a = #[(.ref x0), (.ref x1)] ∧ Z.Warmed39 U.vm ∧ U.heap = h0) (fun _ _ _ _ _ => True) (fun _ U o U' => ∃ v L, o = .returned v ∧ own_F27 Z x0 x1 n0 h0 v U'.heap L ∧ FrameEnd U o U' L ({ frames := 1, cells := 0, slots := 0, locals := 12 } : Room).cells ({ frames := 1, cells := 0, slots := 0, locals := 12 } : Room).slots) := by
  refine MetFree.of_bodySF (plainFor_of_name pn_27) hisR ?_
  intro p e s m args below meth c s₁ Bd hml0 hP hK
  obtain ⟨rfl, hZ, hh⟩ := hP
  have hx := Bd.exec
  have hby := Bd.bytes
  have hml : c.maxLocals = 2 := hml0
  have hown : s.vm.findClass "java/util/Optional" = some m.cls := findClass_of_methodNamed Bd.named
  have hnm := (name_of_methodNamed Bd.named Bd.method).1
  have X0 : Stand p l e ({ frames := 1, cells := 0, slots := 0, locals := 12 } : Room) s m #[(.ref x0), (.ref x1)] below meth c s₁ [] 0 0 := Stand.of_body Bd
  have e0 : s₁.heap = h0 := by rw [← hh, Bd.state]; rfl
  have Z0 : n0 ≤ h0.size := Nat.le_trans g0 (Nat.le_of_lt E0.lt)
  have N0 := Fr.nil n0
  have K0 : Keep h0 h0 [x0] := Keep.refl h0 [x0]
  have hgo : own_Goes p e below s (own_F27 Z x0 x1 n0 h0) 0 0 (s₁.setTop (mkF m 0 #[.val (.ref x0), .val (.ref x1)] [])) := by
    refine own_Goes.step (fun tq kq => XS.aloadN X0.here hx rfl (hb hby d27_0) rfl rfl kq) ?_
    show own_Goes _ _ _ _ _ _ _ (s₁.setTop (mkF m 1 #[.val (.ref x0), .val (.ref x1)] [(.ref x0)]))
    obtain ⟨T1, X1, e1, st1⟩ := initO X0 hx hZ hown (own_at hw 176 rfl) (own_at hw 7 rfl) (own_at hw 8 rfl) e0 (g := (mkF m 1 #[.val (.ref x0), .val (.ref x1)] [(.ref x0)])) rfl (by rw [hml]; rfl) rfl (hb hby d27_1) (by decide) (W := 0) (by show 2 * 0 + _ ≤ _; exact Nat.le_of_eq rfl) (by decide)
    refine own_Goes.step st1 ?_
    show own_Goes _ _ _ _ _ _ _ (T1.setTop (mkF m 4 #[.val (.ref x0), .val (.ref x1)] []))
    refine own_Goes.step (fun tq kq => XS.aloadN X1.here hx rfl (hb hby d27_4) rfl rfl kq) ?_
    show own_Goes _ _ _ _ _ _ _ (T1.setTop (mkF m 5 #[.val (.ref x0), .val (.ref x1)] [(.ref x0)]))
    refine own_Goes.step (fun tq kq => XS.aloadN X1.here hx rfl (hb hby d27_5) rfl rfl kq) ?_
    show own_Goes _ _ _ _ _ _ _ (T1.setTop (mkF m 6 #[.val (.ref x0), .val (.ref x1)] [(.ref x1), (.ref x0)]))
    obtain ⟨T2, h2, X2, e2, W2, st2⟩ := putF X1 hx hZ hown (host := "") (Or.inl (own_at hw 177 rfl)) Via.refl e1 (v := (.ref x1)) P0 E0 (Or.inr ⟨(own_at hw 178 rfl), rfl, hnm⟩) (own_at hw 167 rfl) (ty := (.object "java/lang/Object")) (by decide) rfl rfl (g := (mkF m 6 #[.val (.ref x0), .val (.ref x1)] [(.ref x1), (.ref x0)])) rfl rfl (hb hby d27_6)
    refine own_Goes.step st2 ?_
    have f3 := E0.wr W2
    have f4 := P0.same W2
    have K5 := K0.wr W2 (Or.inl (List.mem_of_getElem? (i := 0) rfl))
    have N6 := Fr.snoc X2 N0 g0
    have Z7 : n0 ≤ h2.size := Nat.le_trans Z0 (Keep.of_wr W2).1
    show own_Goes _ _ _ _ _ _ _ (T2.setTop (mkF m 9 #[.val (.ref x0), .val (.ref x1)] []))
    refine own_endV X2 hx Bd.notSynchronized Bd.returns (hb hby d27_9) ?_ (by decide) (by decide)
    show own_F27 Z x0 x1 n0 h0 _ T2.heap _
    rw [e2]
    exact ⟨rfl, N6, K5⟩
  obtain ⟨t2, o2, q1, q2, q3, q4⟩ := hgo
  exact ⟨t2, o2, castTop (ef_27 m x0 x1) q1, q2, q3, q4⟩
theorem d25_0 : decode jdk_32_method_3_code 0 = .ok (.new 2, 3) := by decide +kernel
theorem d25_3 : decode jdk_32_method_3_code 3 = .ok (.dup, 1) := by decide +kernel
theorem d25_4 : decode jdk_32_method_3_code 4 = .ok (.aload_n 0, 1) := by decide +kernel
theorem d25_5 : decode jdk_32_method_3_code 5 = .ok (.invokestatic 17, 3) := by decide +kernel
theorem d25_8 : decode jdk_32_method_3_code 8 = .ok (.invokespecial 23, 3) := by decide +kernel
theorem d25_11 : decode jdk_32_method_3_code 11 = .ok (.areturn, 1) := by decide +kernel
theorem pn_25 : plainName "java/util/Optional" = true := by first | (simp [plainName, overriddenIn]; done) | decide +kernel
theorem pd_25 : parseMethodDescriptor "(Ljava/lang/Object;)Ljava/util/Optional;" = some ⟨[(.object "java/lang/Object")], (some (.object "java/util/Optional"))⟩ := by decide +kernel
theorem ef_25 (m : MethodId) (x0 : Addr) : entryFrame m #[(.ref x0)] 1 = mkF m 0 #[.val (.ref x0)] [] := by first | (simp [entryFrame, mkF, argsToLocals, Value.category]; done) | rfl
def own_F25 (Z : State) (x0 : Addr)  (n0 : Nat) (h0 : Heap) (v : Option Value) (h : Heap) (L : List Loc) : Prop := ∃ o, v = some (.ref o) ∧ Fr n0 L ∧ Keep h0 h []
set_option maxRecDepth 65536 in
set_option maxHeartbeats 40000000 in
theorem own_m25 (l : Launch) (Z : State) (a0 : Array Value) (hw : ∀ d ∈ tables_1, d.before a0 Z = true) (ws : List Jvm.Cond) (x0 : Addr)  (n0 : Nat) (h0 : Heap)  (Z0 : n0 ≤ h0.size) :
    MetFree l (⟨"java/util/Optional", "of", "(Ljava/lang/Object;)Ljava/util/Optional;"⟩ : MethodName) (head1 (Jvm.Cond.code (⟨"java/util/Optional", "of", "(Ljava/lang/Object;)Ljava/util/Optional;"⟩ : MethodName) jdk_32_method_3_code 1 (some (.object "java/util/Optional")) :: ws) ({ frames := 2, cells := 1, slots := 1, locals := 26 } : Room)) (fun a U => a = #[(.ref x0)] ∧ Z.Warmed39 U.vm ∧ U.heap = h0) (fun _ _ _ _ _ => True) (fun _ U o U' => ∃ v L, o = .returned v ∧ own_F25 Z x0 n0 h0 v U'.heap L ∧ FrameEnd U o U' L ({ frames := 2, cells := 1, slots := 1, locals := 26 } : Room).cells ({ frames := 2, cells := 1, slots := 1, locals := 26 } : Room).slots) := by
  refine MetFree.of_bodySF (plainFor_of_name pn_25) hisR ?_
  intro p e s m args below meth c s₁ Bd hml0 hP hK
  obtain ⟨rfl, hZ, hh⟩ := hP
  have hx := Bd.exec
  have hby := Bd.bytes
  have hml : c.maxLocals = 1 := hml0
  have hown : s.vm.findClass "java/util/Optional" = some m.cls := findClass_of_methodNamed Bd.named
  have hnm := (name_of_methodNamed Bd.named Bd.method).1
  have X0 : Stand p l e ({ frames := 2, cells := 1, slots := 1, locals := 26 } : Room) s m #[(.ref x0)] below meth c s₁ [] 0 0 := Stand.of_body Bd
  have e0 : s₁.heap = h0 := by rw [← hh, Bd.state]; rfl
  have N0 := Fr.nil n0
  have K0 : Keep h0 h0 [] := Keep.refl h0 []
  have hgo : own_Goes p e below s (own_F25 Z x0 n0 h0) 1 1 (s₁.setTop (mkF m 0 #[.val (.ref x0)] [])) := by
    obtain ⟨T1, h1, X1, e1, E1, A1, D1, -, st1⟩ := newO X0 hx hZ hown (own_at hw 166 rfl) (own_at hw 167 rfl) (own_at hw 164 rfl) e0 (g := (mkF m 0 #[.val (.ref x0)] [])) rfl (hb hby d25_0) (by decide) (by decide)
    obtain ⟨a1, g1⟩ : ∃ z, z = h0.size := ⟨_, rfl⟩
    rw [← g1] at A1 D1 st1
    have f2 : Fld Z h1 a1 "java/util/Optional" "value" "Ljava/lang/Object;" .null := D1 (Or.inr (own_at hw 178 rfl)) (ty := (.object "java/lang/Object")) (by decide)
    have ga1 : n0 ≤ a1 := Nat.le_trans Z0 (Nat.le_of_eq g1.symm)
    have Z1 : n0 ≤ h1.size := Nat.le_trans Z0 E1.1
    have K1 := K0.ext E1
    have Kh1 : h0.size ≤ a1 := Nat.le_trans K0.1 (Nat.le_of_eq g1.symm)
    refine own_Goes.step st1 ?_
    show own_Goes _ _ _ _ _ _ _ (T1.setTop (mkF m 3 #[.val (.ref x0)] [(.ref a1)]))
    refine own_Goes.step (fun tq kq => XS.dup X1.here hx rfl (hb hby d25_3) rfl rfl kq) ?_
    show own_Goes _ _ _ _ _ _ _ (T1.setTop (mkF m 4 #[.val (.ref x0)] [(.ref a1), (.ref a1)]))
    refine own_Goes.step (fun tq kq => XS.aloadN X1.here hx rfl (hb hby d25_4) rfl rfl kq) ?_
    show own_Goes _ _ _ _ _ _ _ (T1.setTop (mkF m 5 #[.val (.ref x0)] [(.ref x0), (.ref a1), (.ref a1)]))
    obtain ⟨w4, T4, L4, q4, Y4, st4⟩ := own_stat X1 hx hZ e1 hown (own_at hw 168 rfl) (own_at hw 169 rfl) (own_at hw 170 rfl) (own_at hw 171 rfl) (by decide) (own_m26 l Z a0 hw [] x0 n0 h1) (by decide) (W := 2) (by decide) (by decide) (by decide) (g := (mkF m 5 #[.val (.ref x0)] [(.ref x0), (.ref a1), (.ref a1)])) rfl (by rw [hml]; rfl) (argsL := [(.ref x0)]) (rest := [(.ref a1), (.ref a1)]) (lenOf pd_26 rfl) rfl (by show 2 * 0 + _ ≤ _; exact Nat.le_of_eq rfl) (hb hby d25_5)
    obtain ⟨e4, X4⟩ := own_clean q4 Y4 rfl rfl
    obtain ⟨rfl, -, -⟩ := q4
    refine own_Goes.step st4 ?_
    show own_Goes _ _ _ _ _ _ _ (T4.setTop (mkF m 8 #[.val (.ref x0)] [(.ref x0), (.ref a1), (.ref a1)]))
    obtain ⟨w5, T5, L5, q5, Y5, st5⟩ := own_spec X4 hx hZ e4 rfl hown (own_at hw 172 rfl) (own_at hw 173 rfl) (own_at hw 164 rfl) (own_at hw 175 rfl) (by decide) (own_m27 l Z a0 hw [] a1 x0 n0 h1 A1 ga1 f2) (by decide) (W := 1) (by decide) (by decide) (by decide) (g := (mkF m 8 #[.val (.ref x0)] [(.ref x0), (.ref a1), (.ref a1)])) rfl (by rw [hml]; rfl) (a := a1) (argsL := [(.ref x0)]) (rest := [(.ref a1)]) (lenOf pd_27 rfl) rfl (by show 2 * 0 + _ ≤ _; exact Nat.le_of_eq rfl) (hb hby d25_8)
    obtain ⟨rfl, N5, K5⟩ := q5
    have Nn5 := Fr.app N0 N5
    have Kn5 := K1.trans K5 (own_kt (Or.inr Kh1))
    have Zn5 : n0 ≤ T5.heap.size := Nat.le_trans Z1 K5.1
    refine own_Goes.step st5 ?_
    show own_Goes _ _ _ _ _ _ _ (T5.setTop (mkF m 11 #[.val (.ref x0)] [(.ref a1)]))
    refine own_endA Y5 hx Bd.notSynchronized rfl Bd.returns rfl (hb hby d25_11) ?_ (by decide) (by decide)
    show own_F25 Z x0 n0 h0 _ T5.heap _
    exact ⟨a1, rfl, Nn5, Kn5⟩
  obtain ⟨t2, o2, q1, q2, q3, q4⟩ := hgo
  exact ⟨t2, o2, castTop (ef_25 m x0) q1, q2, q3, q4⟩
theorem d24_0 : decode jdk_35_method_42_code 0 = .ok (.lload_n 0, 1) := by decide +kernel
theorem d24_1 : decode jdk_35_method_42_code 1 = .ok (.lload_n 2, 1) := by decide +kernel
theorem d24_2 : decode jdk_35_method_42_code 2 = .ok (.lcmp, 1) := by decide +kernel
theorem d24_3 : decode jdk_35_method_42_code 3 = .ok (.ifCond .ge 7, 3) := by decide +kernel
theorem d24_6 : decode jdk_35_method_42_code 6 = .ok (.iconst (-1), 1) := by decide +kernel
theorem d24_7 : decode jdk_35_method_42_code 7 = .ok (.goto 14, 3) := by decide +kernel
theorem d24_10 : decode jdk_35_method_42_code 10 = .ok (.lload_n 0, 1) := by decide +kernel
theorem d24_11 : decode jdk_35_method_42_code 11 = .ok (.lload_n 2, 1) := by decide +kernel
theorem d24_12 : decode jdk_35_method_42_code 12 = .ok (.lcmp, 1) := by decide +kernel
theorem d24_13 : decode jdk_35_method_42_code 13 = .ok (.ifCond .ne 7, 3) := by decide +kernel
theorem d24_16 : decode jdk_35_method_42_code 16 = .ok (.iconst 0, 1) := by decide +kernel
theorem d24_17 : decode jdk_35_method_42_code 17 = .ok (.goto 4, 3) := by decide +kernel
theorem d24_20 : decode jdk_35_method_42_code 20 = .ok (.iconst 1, 1) := by decide +kernel
theorem d24_21 : decode jdk_35_method_42_code 21 = .ok (.ireturn, 1) := by decide +kernel
theorem pn_24 : plainName "java/lang/Long" = true := by first | (simp [plainName, overriddenIn]; done) | decide +kernel
theorem pd_24 : parseMethodDescriptor "(JJ)I" = some ⟨[.long, .long], (some .int)⟩ := by decide +kernel
theorem ef_24 (m : MethodId) (x0 : Int64) (x1 : Int64) : entryFrame m #[(.long x0), (.long x1)] 4 = mkF m 0 #[.val (.long x0), .second, .val (.long x1), .second] [] := by first | (simp [entryFrame, mkF, argsToLocals, Value.category]; done) | rfl
def own_f24 (x0 : Int64) (x1 : Int64) : Int32 := (if x0 < x1 then (-1 : Int32) else (if x0 = x1 then (0 : Int32) else (1 : Int32)))
def own_F24 (Z : State) (x0 : Int64) (x1 : Int64)  (h0 : Heap) (v : Option Value) (h : Heap) (L : List Loc) : Prop := v = some (.int (own_f24 x0 x1)) ∧ L = [] ∧ h = h0
set_option maxRecDepth 65536 in
set_option maxHeartbeats 40000000 in
theorem own_m24 (l : Launch) (Z : State) (a0 : Array Value) (hw : ∀ d ∈ tables_1, d.before a0 Z = true) (ws : List Jvm.Cond) (x0 : Int64) (x1 : Int64)  (h0 : Heap)   :
    MetFree l (⟨"java/lang/Long", "compare", "(JJ)I"⟩ : MethodName) (head1 (Jvm.Cond.code (⟨"java/lang/Long", "compare", "(JJ)I"⟩ : MethodName) jdk_35_method_42_code 4 (some .int) :: ws) ({ frames := 0, cells := 0, slots := 0, locals := 0 } : Room)) (fun a U => a = #[(.long x0), (.long x1)] ∧ Z.Warmed39 U.vm ∧ U.heap = h0) (fun _ _ _ _ _ => True) (fun _ U o U' => ∃ v L, o = .returned v ∧ own_F24 Z x0 x1 h0 v U'.heap L ∧ FrameEnd U o U' L ({ frames := 0, cells := 0, slots := 0, locals := 0 } : Room).cells ({ frames := 0, cells := 0, slots := 0, locals := 0 } : Room).slots) := by
  refine MetFree.of_bodySF (plainFor_of_name pn_24) hisR ?_
  intro p e s m args below meth c s₁ Bd hml0 hP hK
  obtain ⟨rfl, hZ, hh⟩ := hP
  have hx := Bd.exec
  have hby := Bd.bytes
  have hml : c.maxLocals = 4 := hml0
  have hown : s.vm.findClass "java/lang/Long" = some m.cls := findClass_of_methodNamed Bd.named
  have hnm := (name_of_methodNamed Bd.named Bd.method).1
  have X0 : Stand p l e ({ frames := 0, cells := 0, slots := 0, locals := 0 } : Room) s m #[(.long x0), (.long x1)] below meth c s₁ [] 0 0 := Stand.of_body Bd
  have e0 : s₁.heap = h0 := by rw [← hh, Bd.state]; rfl
  have hgo : own_Goes p e below s (own_F24 Z x0 x1 h0) 0 0 (s₁.setTop (mkF m 0 #[.val (.long x0), .second, .val (.long x1), .second] [])) := by
    refine own_Goes.step (fun tq kq => XT.lloadN X0.here hx rfl (hb hby d24_0) rfl kq) ?_
    show own_Goes _ _ _ _ _ _ _ (s₁.setTop (mkF m 1 #[.val (.long x0), .second, .val (.long x1), .second] [(.long x0)]))
    refine own_Goes.step (fun tq kq => XT.lloadN X0.here hx rfl (hb hby d24_1) rfl kq) ?_
    show own_Goes _ _ _ _ _ _ _ (s₁.setTop (mkF m 2 #[.val (.long x0), .second, .val (.long x1), .second] [(.long x1), (.long x0)]))
    refine own_Goes.step (fun tq kq => XT.lcmp X0.here hx rfl (hb hby d24_2) rfl kq) ?_
    show own_Goes _ _ _ _ _ _ _ (s₁.setTop (mkF m 3 #[.val (.long x0), .second, .val (.long x1), .second] [(.int (XT.cmpL x0 x1))]))
    by_cases hc1 : x0 < x1
    · refine own_Goes.step (fun tq kq => XS.ifNo X0.here hx rfl (hb hby d24_3) rfl (XT.ll_ge_f hc1) kq) ?_
      show own_Goes _ _ _ _ _ _ _ (s₁.setTop (mkF m 6 #[.val (.long x0), .second, .val (.long x1), .second] []))
      refine own_Goes.step (fun tq kq => XT.iconstV X0.here hx rfl (-1 : Int32) (hb hby d24_6) (by decide) kq) ?_
      show own_Goes _ _ _ _ _ _ _ (s₁.setTop (mkF m 7 #[.val (.long x0), .second, .val (.long x1), .second] [(.int (-1 : Int32))]))
      refine own_Goes.step (fun tq kq => XS.goto X0.here hx rfl (pc0 := 7) (pc' := 21) rfl (hb hby d24_7) (by decide) (by decide) kq) ?_
      show own_Goes _ _ _ _ _ _ _ (s₁.setTop (mkF m 21 #[.val (.long x0), .second, .val (.long x1), .second] [(.int (-1 : Int32))]))
      exact own_endI X0 hx Bd.notSynchronized Bd.returns (hb hby d24_21) ⟨(congrArg (fun z => some (Value.int z)) (show (-1 : Int32) = own_f24 x0 x1 from by simp only [own_f24, if_pos hc1])), rfl, e0⟩ (by decide) (by decide)
    · refine own_Goes.step (fun tq kq => XS.ifYes X0.here hx rfl (pc0 := 3) (pc' := 10) rfl (hb hby d24_3) rfl (XT.ll_ge_t hc1) (by decide) (by decide) kq) ?_
      show own_Goes _ _ _ _ _ _ _ (s₁.setTop (mkF m 10 #[.val (.long x0), .second, .val (.long x1), .second] []))
      refine own_Goes.step (fun tq kq => XT.lloadN X0.here hx rfl (hb hby d24_10) rfl kq) ?_
      show own_Goes _ _ _ _ _ _ _ (s₁.setTop (mkF m 11 #[.val (.long x0), .second, .val (.long x1), .second] [(.long x0)]))
      refine own_Goes.step (fun tq kq => XT.lloadN X0.here hx rfl (hb hby d24_11) rfl kq) ?_
      show own_Goes _ _ _ _ _ _ _ (s₁.setTop (mkF m 12 #[.val (.long x0), .second, .val (.long x1), .second] [(.long x1), (.long x0)]))
      refine own_Goes.step (fun tq kq => XT.lcmp X0.here hx rfl (hb hby d24_12) rfl kq) ?_
      show own_Goes _ _ _ _ _ _ _ (s₁.setTop (mkF m 13 #[.val (.long x0), .second, .val (.long x1), .second] [(.int (XT.cmpL x0 x1))]))
      by_cases hc2 : x0 = x1
      · refine own_Goes.step (fun tq kq => XS.ifNo X0.here hx rfl (hb hby d24_13) rfl (XT.ll_ne_f hc2) kq) ?_
        show own_Goes _ _ _ _ _ _ _ (s₁.setTop (mkF m 16 #[.val (.long x0), .second, .val (.long x1), .second] []))
        refine own_Goes.step (fun tq kq => XT.iconstV X0.here hx rfl (0 : Int32) (hb hby d24_16) (by decide) kq) ?_
        show own_Goes _ _ _ _ _ _ _ (s₁.setTop (mkF m 17 #[.val (.long x0), .second, .val (.long x1), .second] [(.int (0 : Int32))]))
        refine own_Goes.step (fun tq kq => XS.goto X0.here hx rfl (pc0 := 17) (pc' := 21) rfl (hb hby d24_17) (by decide) (by decide) kq) ?_
        show own_Goes _ _ _ _ _ _ _ (s₁.setTop (mkF m 21 #[.val (.long x0), .second, .val (.long x1), .second] [(.int (0 : Int32))]))
        exact own_endI X0 hx Bd.notSynchronized Bd.returns (hb hby d24_21) ⟨(congrArg (fun z => some (Value.int z)) (show (0 : Int32) = own_f24 x0 x1 from by simp only [own_f24, if_neg hc1, if_pos hc2])), rfl, e0⟩ (by decide) (by decide)
      · refine own_Goes.step (fun tq kq => XS.ifYes X0.here hx rfl (pc0 := 13) (pc' := 20) rfl (hb hby d24_13) rfl (XT.ll_ne_t hc2) (by decide) (by decide) kq) ?_
        show own_Goes _ _ _ _ _ _ _ (s₁.setTop (mkF m 20 #[.val (.long x0), .second, .val (.long x1), .second] []))
        refine own_Goes.step (fun tq kq => XT.iconstV X0.here hx rfl (1 : Int32) (hb hby d24_20) (by decide) kq) ?_
        show own_Goes _ _ _ _ _ _ _ (s₁.setTop (mkF m 21 #[.val (.long x0), .second, .val (.long x1), .second] [(.int (1 : Int32))]))
        exact own_endI X0 hx Bd.notSynchronized Bd.returns (hb hby d24_21) ⟨(congrArg (fun z => some (Value.int z)) (show (1 : Int32) = own_f24 x0 x1 from by simp only [own_f24, if_neg hc1, if_neg hc2])), rfl, e0⟩ (by decide) (by decide)
  obtain ⟨t2, o2, q1, q2, q3, q4⟩ := hgo
  exact ⟨t2, o2, castTop (ef_24 m x0 x1) q1, q2, q3, q4⟩
theorem d23_0 : decode jdk_35_method_43_code 0 = .ok (.lload_n 0, 1) := by decide +kernel
theorem d23_1 : decode jdk_35_method_43_code 1 = .ok (.ldc2_w 168, 3) := by decide +kernel
theorem d23_4 : decode jdk_35_method_43_code 4 = .ok (.ladd, 1) := by decide +kernel
theorem d23_5 : decode jdk_35_method_43_code 5 = .ok (.lload_n 2, 1) := by decide +kernel
theorem d23_6 : decode jdk_35_method_43_code 6 = .ok (.ldc2_w 168, 3) := by decide +kernel
theorem d23_9 : decode jdk_35_method_43_code 9 = .ok (.ladd, 1) := by decide +kernel
theorem d23_10 : decode jdk_35_method_43_code 10 = .ok (.invokestatic 302, 3) := by decide +kernel
theorem d23_13 : decode jdk_35_method_43_code 13 = .ok (.ireturn, 1) := by decide +kernel
theorem pn_23 : plainName "java/lang/Long" = true := by first | (simp [plainName, overriddenIn]; done) | decide +kernel
theorem pd_23 : parseMethodDescriptor "(JJ)I" = some ⟨[.long, .long], (some .int)⟩ := by decide +kernel
theorem ef_23 (m : MethodId) (x0 : Int64) (x1 : Int64) : entryFrame m #[(.long x0), (.long x1)] 4 = mkF m 0 #[.val (.long x0), .second, .val (.long x1), .second] [] := by first | (simp [entryFrame, mkF, argsToLocals, Value.category]; done) | rfl
def own_f23 (x0 : Int64) (x1 : Int64) : Int32 := (own_f24 (x0 + (-9223372036854775808 : Int64)) (x1 + (-9223372036854775808 : Int64)))
def own_F23 (Z : State) (x0 : Int64) (x1 : Int64)  (h0 : Heap) (v : Option Value) (h : Heap) (L : List Loc) : Prop := v = some (.int (own_f23 x0 x1)) ∧ L = [] ∧ h = h0
set_option maxRecDepth 65536 in
set_option maxHeartbeats 40000000 in
theorem own_m23 (l : Launch) (Z : State) (a0 : Array Value) (hw : ∀ d ∈ tables_1, d.before a0 Z = true) (ws : List Jvm.Cond) (x0 : Int64) (x1 : Int64)  (h0 : Heap)   :
    MetFree l (⟨"java/lang/Long", "compareUnsigned", "(JJ)I"⟩ : MethodName) (head1 (Jvm.Cond.code (⟨"java/lang/Long", "compareUnsigned", "(JJ)I"⟩ : MethodName) jdk_35_method_43_code 4 (some .int) :: ws) ({ frames := 1, cells := 0, slots := 0, locals := 15 } : Room)) (fun a U => a = #[(.long x0), (.long x1)] ∧ Z.Warmed39 U.vm ∧ U.heap = h0) (fun _ _ _ _ _ => True) (fun _ U o U' => ∃ v L, o = .returned v ∧ own_F23 Z x0 x1 h0 v U'.heap L ∧ FrameEnd U o U' L ({ frames := 1, cells := 0, slots := 0, locals := 15 } : Room).cells ({ frames := 1, cells := 0, slots := 0, locals := 15 } : Room).slots) := by
  refine MetFree.of_bodySF (plainFor_of_name pn_23) hisR ?_
  intro p e s m args below meth c s₁ Bd hml0 hP hK
  obtain ⟨rfl, hZ, hh⟩ := hP
  have hx := Bd.exec
  have hby := Bd.bytes
  have hml : c.maxLocals = 4 := hml0
  have hown : s.vm.findClass "java/lang/Long" = some m.cls := findClass_of_methodNamed Bd.named
  have hnm := (name_of_methodNamed Bd.named Bd.method).1
  have X0 : Stand p l e ({ frames := 1, cells := 0, slots := 0, locals := 15 } : Room) s m #[(.long x0), (.long x1)] below meth c s₁ [] 0 0 := Stand.of_body Bd
  have e0 : s₁.heap = h0 := by rw [← hh, Bd.state]; rfl
  have hgo : own_Goes p e below s (own_F23 Z x0 x1 h0) 0 0 (s₁.setTop (mkF m 0 #[.val (.long x0), .second, .val (.long x1), .second] [])) := by
    refine own_Goes.step (fun tq kq => XT.lloadN X0.here hx rfl (hb hby d23_0) rfl kq) ?_
    show own_Goes _ _ _ _ _ _ _ (s₁.setTop (mkF m 1 #[.val (.long x0), .second, .val (.long x1), .second] [(.long x0)]))
    refine own_Goes.step (fun tq kq => X0.ldc2J hx hown (mvT hZ (own_at hw 154 rfl)) rfl (hb hby d23_1) kq) ?_
    show own_Goes _ _ _ _ _ _ _ (s₁.setTop (mkF m 4 #[.val (.long x0), .second, .val (.long x1), .second] [(.long (-9223372036854775808 : Int64)), (.long x0)]))
    refine own_Goes.step (fun tq kq => XT.ladd X0.here hx rfl (hb hby d23_4) rfl kq) ?_
    show own_Goes _ _ _ _ _ _ _ (s₁.setTop (mkF m 5 #[.val (.long x0), .second, .val (.long x1), .second] [(.long (x0 + (-9223372036854775808 : Int64)))]))
    refine own_Goes.step (fun tq kq => XT.lloadN X0.here hx rfl (hb hby d23_5) rfl kq) ?_
    show own_Goes _ _ _ _ _ _ _ (s₁.setTop (mkF m 6 #[.val (.long x0), .second, .val (.long x1), .second] [(.long x1), (.long (x0 + (-9223372036854775808 : Int64)))]))
    refine own_Goes.step (fun tq kq => X0.ldc2J hx hown (mvT hZ (own_at hw 154 rfl)) rfl (hb hby d23_6) kq) ?_
    show own_Goes _ _ _ _ _ _ _ (s₁.setTop (mkF m 9 #[.val (.long x0), .second, .val (.long x1), .second] [(.long (-9223372036854775808 : Int64)), (.long x1), (.long (x0 + (-9223372036854775808 : Int64)))]))
    refine own_Goes.step (fun tq kq => XT.ladd X0.here hx rfl (hb hby d23_9) rfl kq) ?_
    show own_Goes _ _ _ _ _ _ _ (s₁.setTop (mkF m 10 #[.val (.long x0), .second, .val (.long x1), .second] [(.long (x1 + (-9223372036854775808 : Int64))), (.long (x0 + (-9223372036854775808 : Int64)))]))
    obtain ⟨w1, T1, L1, q1, Y1, st1⟩ := own_stat X0 hx hZ e0 hown (own_at hw 155 rfl) (own_at hw 156 rfl) (own_at hw 112 rfl) (own_at hw 157 rfl) (by decide) (own_m24 l Z a0 hw [] (x0 + (-9223372036854775808 : Int64)) (x1 + (-9223372036854775808 : Int64)) h0 ) (by decide) (W := 0) (by decide) (by decide) (by decide) (g := (mkF m 10 #[.val (.long x0), .second, .val (.long x1), .second] [(.long (x1 + (-9223372036854775808 : Int64))), (.long (x0 + (-9223372036854775808 : Int64)))])) rfl (by rw [hml]; rfl) (argsL := [(.long (x0 + (-9223372036854775808 : Int64))), (.long (x1 + (-9223372036854775808 : Int64)))]) (rest := []) (lenOf pd_24 rfl) rfl (by show 2 * 0 + _ ≤ _; exact Nat.le_of_eq rfl) (hb hby d23_10)
    obtain ⟨e1, X1⟩ := own_clean q1 Y1 rfl rfl
    obtain ⟨rfl, -, -⟩ := q1
    refine own_Goes.step st1 ?_
    show own_Goes _ _ _ _ _ _ _ (T1.setTop (mkF m 13 #[.val (.long x0), .second, .val (.long x1), .second] [(.int (own_f24 (x0 + (-9223372036854775808 : Int64)) (x1 + (-9223372036854775808 : Int64))))]))
    exact own_endI X1 hx Bd.notSynchronized Bd.returns (hb hby d23_13) ⟨(congrArg (fun z => some (Value.int z)) (show (own_f24 (x0 + (-9223372036854775808 : Int64)) (x1 + (-9223372036854775808 : Int64))) = own_f23 x0 x1 from by simp only [own_f23])), rfl, e1⟩ (by decide) (by decide)
  obtain ⟨t2, o2, q1, q2, q3, q4⟩ := hgo
  exact ⟨t2, o2, castTop (ef_23 m x0 x1) q1, q2, q3, q4⟩
theorem own_cmp0 (k : Int64) : ¬ (0 : Int32) < own_f23 k k := by
  have e : own_f23 k k = 0 := by
    unfold own_f23 own_f24
    rw [if_neg (by rw [own_lt64]; omega), if_pos rfl]
  rw [e]
  decide
theorem d22_0 : decode prog_23_method_1_code 0 = .ok (.aload_n 0, 1) := by decide +kernel
theorem d22_1 : decode prog_23_method_1_code 1 = .ok (.invokespecial 1, 3) := by decide +kernel
theorem d22_4 : decode prog_23_method_1_code 4 = .ok (.lload_n 1, 1) := by decide +kernel
theorem d22_5 : decode prog_23_method_1_code 5 = .ok (.lload_n 3, 1) := by decide +kernel
theorem d22_6 : decode prog_23_method_1_code 6 = .ok (.invokestatic 7, 3) := by decide +kernel
theorem d22_9 : decode prog_23_method_1_code 9 = .ok (.ifCond .le 24, 3) := by decide +kernel
theorem d22_12 : decode prog_23_method_1_code 12 = .ok (.new 13, 3) := by decide +kernel
theorem d22_15 : decode prog_23_method_1_code 15 = .ok (.dup, 1) := by decide +kernel
theorem d22_16 : decode prog_23_method_1_code 16 = .ok (.lload_n 1, 1) := by decide +kernel
theorem d22_17 : decode prog_23_method_1_code 17 = .ok (.invokestatic 15, 3) := by decide +kernel
theorem d22_20 : decode prog_23_method_1_code 20 = .ok (.lload_n 3, 1) := by decide +kernel
theorem d22_21 : decode prog_23_method_1_code 21 = .ok (.invokestatic 15, 3) := by decide +kernel
theorem d22_29 : decode prog_23_method_1_code 29 = .ok (.invokespecial 23, 3) := by decide +kernel
theorem d22_32 : decode prog_23_method_1_code 32 = .ok (.athrow, 1) := by decide +kernel
theorem d22_33 : decode prog_23_method_1_code 33 = .ok (.aload_n 0, 1) := by decide +kernel
theorem d22_34 : decode prog_23_method_1_code 34 = .ok (.lload_n 1, 1) := by decide +kernel
theorem d22_35 : decode prog_23_method_1_code 35 = .ok (.putfield 26, 3) := by decide +kernel
theorem d22_38 : decode prog_23_method_1_code 38 = .ok (.aload_n 0, 1) := by decide +kernel
theorem d22_39 : decode prog_23_method_1_code 39 = .ok (.lload_n 3, 1) := by decide +kernel
theorem d22_40 : decode prog_23_method_1_code 40 = .ok (.putfield 32, 3) := by decide +kernel
theorem d22_43 : decode prog_23_method_1_code 43 = .ok (.return_, 1) := by decide +kernel
theorem pn_22 : plainName "com/example/strati/strati/model/KeyRange" = true := by first | (simp [plainName, overriddenIn]; done) | decide +kernel
theorem pd_22 : parseMethodDescriptor "(JJ)V" = some ⟨[.long, .long], none⟩ := by decide +kernel
theorem ef_22 (m : MethodId) (x0 : Addr) (x1 : Int64) (x2 : Int64) : entryFrame m #[(.ref x0), (.long x1), (.long x2)] 5 = mkF m 0 #[.val (.ref x0), .val (.long x1), .second, .val (.long x2), .second] [] := by first | (simp [entryFrame, mkF, argsToLocals, Value.category]; done) | rfl
def own_f22_min (x1 : Int64) (x2 : Int64) : Int64 := x1
def own_f22_max (x1 : Int64) (x2 : Int64) : Int64 := x2
def own_F22 (Z : State) (x0 : Addr) (x1 : Int64) (x2 : Int64)  (n0 : Nat) (h0 : Heap) (v : Option Value) (h : Heap) (L : List Loc) : Prop := v = none ∧ Fr n0 L ∧ Keep h0 h [x0] ∧ Exa Z h x0 "com/example/strati/strati/model/KeyRange" ∧ Fld Z h x0 "com/example/strati/strati/model/KeyRange" "min" "J" (.long (own_f22_min x1 x2)) ∧ Fld Z h x0 "com/example/strati/strati/model/KeyRange" "max" "J" (.long (own_f22_max x1 x2))
set_option maxRecDepth 65536 in
set_option maxHeartbeats 40000000 in
theorem own_m22 (l : Launch) (Z : State) (a0 : Array Value) (hw : ∀ d ∈ tables_1, d.before a0 Z = true) (ws : List Jvm.Cond) (x0 : Addr) (x1 : Int64) (x2 : Int64)  (n0 : Nat) (h0 : Heap) (E0 : Exa Z h0 x0 "com/example/strati/strati/model/KeyRange") (g0 : n0 ≤ x0) (P0 : Fld Z h0 x0 "com/example/strati/strati/model/KeyRange" "min" "J" (.long (0 : Int64))) (P1 : Fld Z h0 x0 "com/example/strati/strati/model/KeyRange" "max" "J" (.long (0 : Int64))) (hcmp : ¬ (0 : Int32) < own_f23 x1 x2) :
    MetFree l (⟨"com/example/strati/strati/model/KeyRange", "<init>", "(JJ)V"⟩ : MethodName) (head1 (Jvm.Cond.code (⟨"com/example/strati/strati/model/KeyRange", "<init>", "(JJ)V"⟩ : MethodName) prog_23_method_1_code 5 none :: ws) ({ frames := 2, cells := 0, slots := 0, locals := 30 } : Room)) (fun a U => a = #[(.ref x0), (.long x1), (.long x2)] ∧ Z.Warmed39 U.vm ∧ U.heap = h0) (fun _ _ _ _ _ => True) (fun _ U o U' => ∃ v L, o = .returned v ∧ own_F22 Z x0 x1 x2 n0 h0 v U'.heap L ∧ FrameEnd U o U' L ({ frames := 2, cells := 0, slots := 0, locals := 30 } : Room).cells ({ frames := 2, cells := 0, slots := 0, locals := 30 } : Room).slots) := by
  refine MetFree.of_bodySF (plainFor_of_name pn_22) hisR ?_
  intro p e s m args below meth c s₁ Bd hml0 hP hK
  obtain ⟨rfl, hZ, hh⟩ := hP
  have hx := Bd.exec
  have hby := Bd.bytes
  have hml : c.maxLocals = 5 := hml0
  have hown : s.vm.findClass "com/example/strati/strati/model/KeyRange" = some m.cls := findClass_of_methodNamed Bd.named
  have hnm := (name_of_methodNamed Bd.named Bd.method).1
  have X0 : Stand p l e ({ frames := 2, cells := 0, slots := 0, locals := 30 } : Room) s m #[(.ref x0), (.long x1), (.long x2)] below meth c s₁ [] 0 0 := Stand.of_body Bd
  have e0 : s₁.heap = h0 := by rw [← hh, Bd.state]; rfl
  have N0 := Fr.nil n0
  have K0 : Keep h0 h0 [x0] := Keep.refl h0 [x0]
  have Z0 : n0 ≤ h0.size := Nat.le_trans g0 (Nat.le_of_lt E0.lt)
  have hgo : own_Goes p e below s (own_F22 Z x0 x1 x2 n0 h0) 0 0 (s₁.setTop (mkF m 0 #[.val (.ref x0), .val (.long x1), .second, .val (.long x2), .second] [])) := by
    refine own_Goes.step (fun tq kq => XS.aloadN X0.here hx rfl (hb hby d22_0) rfl rfl kq) ?_
    show own_Goes _ _ _ _ _ _ _ (s₁.setTop (mkF m 1 #[.val (.ref x0), .val (.long x1), .second, .val (.long x2), .second] [(.ref x0)]))
    obtain ⟨w1, T1, L1, q1, Y1, st1⟩ := own_spec X0 hx hZ e0 rfl hown (own_at hw 150 rfl) (own_at hw 29 rfl) (own_at hw 31 rfl) (own_at hw 32 rfl) (by decide) (own_m4 l Z a0 hw [] x0  h0  ) (by decide) (W := 0) (by decide) (by decide) (by decide) (g := (mkF m 1 #[.val (.ref x0), .val (.long x1), .second, .val (.long x2), .second] [(.ref x0)])) rfl (by rw [hml]; rfl) (a := x0) (argsL := []) (rest := []) (lenOf pd_4 rfl) rfl (by show 2 * 0 + _ ≤ _; exact Nat.le_of_eq rfl) (hb hby d22_1)
    obtain ⟨e1, X1⟩ := own_clean q1 Y1 rfl rfl
    obtain ⟨rfl, -, -⟩ := q1
    refine own_Goes.step st1 ?_
    show own_Goes _ _ _ _ _ _ _ (T1.setTop (mkF m 4 #[.val (.ref x0), .val (.long x1), .second, .val (.long x2), .second] []))
    refine own_Goes.step (fun tq kq => XT.lloadN X1.here hx rfl (hb hby d22_4) rfl kq) ?_
    show own_Goes _ _ _ _ _ _ _ (T1.setTop (mkF m 5 #[.val (.ref x0), .val (.long x1), .second, .val (.long x2), .second] [(.long x1)]))
    refine own_Goes.step (fun tq kq => XT.lloadN X1.here hx rfl (hb hby d22_5) rfl kq) ?_
    show own_Goes _ _ _ _ _ _ _ (T1.setTop (mkF m 6 #[.val (.ref x0), .val (.long x1), .second, .val (.long x2), .second] [(.long x2), (.long x1)]))
    obtain ⟨w2, T2, L2, q2, Y2, st2⟩ := own_stat X1 hx hZ e1 hown (own_at hw 151 rfl) (own_at hw 152 rfl) (own_at hw 112 rfl) (own_at hw 153 rfl) (by decide) (own_m23 l Z a0 hw [] x1 x2 h0 ) (by decide) (W := 0) (by decide) (by decide) (by decide) (g := (mkF m 6 #[.val (.ref x0), .val (.long x1), .second, .val (.long x2), .second] [(.long x2), (.long x1)])) rfl (by rw [hml]; rfl) (argsL := [(.long x1), (.long x2)]) (rest := []) (lenOf pd_23 rfl) rfl (by show 2 * 0 + _ ≤ _; exact Nat.le_of_eq rfl) (hb hby d22_6)
    obtain ⟨e2, X2⟩ := own_clean q2 Y2 rfl rfl
    obtain ⟨rfl, -, -⟩ := q2
    refine own_Goes.step st2 ?_
    show own_Goes _ _ _ _ _ _ _ (T2.setTop (mkF m 9 #[.val (.ref x0), .val (.long x1), .second, .val (.long x2), .second] [(.int (own_f23 x1 x2))]))
    refine own_Goes.step (fun tq kq => XS.ifYes X2.here hx rfl (pc0 := 9) (pc' := 33) rfl (hb hby d22_9) rfl (XT.i0_le_t (hcmp)) (by decide) (by decide) kq) ?_
    show own_Goes _ _ _ _ _ _ _ (T2.setTop (mkF m 33 #[.val (.ref x0), .val (.long x1), .second, .val (.long x2), .second] []))
    refine own_Goes.step (fun tq kq => XS.aloadN X2.here hx rfl (hb hby d22_33) rfl rfl kq) ?_
    show own_Goes _ _ _ _ _ _ _ (T2.setTop (mkF m 34 #[.val (.ref x0), .val (.long x1), .second, .val (.long x2), .second] [(.ref x0)]))
    refine own_Goes.step (fun tq kq => XT.lloadN X2.here hx rfl (hb hby d22_34) rfl kq) ?_
    show own_Goes _ _ _ _ _ _ _ (T2.setTop (mkF m 35 #[.val (.ref x0), .val (.long x1), .second, .val (.long x2), .second] [(.long x1), (.ref x0)]))
    obtain ⟨T3, h3, X3, e3, W3, st3⟩ := putF X2 hx hZ hown (host := "") (Or.inl (own_at hw 158 rfl)) Via.refl e2 (v := (.long x1)) P0 E0 (Or.inr ⟨(own_at hw 159 rfl), rfl, hnm⟩) (own_at hw 145 rfl) (ty := .long) (by decide) rfl rfl (g := (mkF m 35 #[.val (.ref x0), .val (.long x1), .second, .val (.long x2), .second] [(.long x1), (.ref x0)])) rfl rfl (hb hby d22_35)
    refine own_Goes.step st3 ?_
    have f4 := E0.wr W3
    have f5 := P0.same W3
    have f6 := P1.other W3 (Or.inr (slot_ne (Or.inr (own_at hw 161 rfl)) (Or.inr (own_at hw 159 rfl)) (by decide) (t := .long) (t' := .long) (by decide) (by decide)))
    have K7 := K0.wr W3 (Or.inl (List.mem_of_getElem? (i := 0) rfl))
    have N8 := Fr.snoc X3 N0 g0
    have Z9 : n0 ≤ h3.size := Nat.le_trans Z0 (Keep.of_wr W3).1
    show own_Goes _ _ _ _ _ _ _ (T3.setTop (mkF m 38 #[.val (.ref x0), .val (.long x1), .second, .val (.long x2), .second] []))
    refine own_Goes.step (fun tq kq => XS.aloadN X3.here hx rfl (hb hby d22_38) rfl rfl kq) ?_
    show own_Goes _ _ _ _ _ _ _ (T3.setTop (mkF m 39 #[.val (.ref x0), .val (.long x1), .second, .val (.long x2), .second] [(.ref x0)]))
    refine own_Goes.step (fun tq kq => XT.lloadN X3.here hx rfl (hb hby d22_39) rfl kq) ?_
    show own_Goes _ _ _ _ _ _ _ (T3.setTop (mkF m 40 #[.val (.ref x0), .val (.long x1), .second, .val (.long x2), .second] [(.long x2), (.ref x0)]))
    obtain ⟨T10, h10, X10, e10, W10, st10⟩ := putF X3 hx hZ hown (host := "") (Or.inl (own_at hw 160 rfl)) Via.refl e3 (v := (.long x2)) f6 f4 (Or.inr ⟨(own_at hw 161 rfl), rfl, hnm⟩) (own_at hw 145 rfl) (ty := .long) (by decide) rfl rfl (g := (mkF m 40 #[.val (.ref x0), .val (.long x1), .second, .val (.long x2), .second] [(.long x2), (.ref x0)])) rfl rfl (hb hby d22_40)
    refine own_Goes.step st10 ?_
    have f11 := f4.wr W10
    have f12 := f5.other W10 (Or.inr (slot_ne (Or.inr (own_at hw 159 rfl)) (Or.inr (own_at hw 161 rfl)) (by decide) (t := .long) (t' := .long) (by decide) (by decide)))
    have f13 := f6.same W10
    have K14 := K7.wr W10 (Or.inl (List.mem_of_getElem? (i := 0) rfl))
    have N15 := Fr.snoc X10 N8 g0
    have Z16 : n0 ≤ h10.size := Nat.le_trans Z9 (Keep.of_wr W10).1
    show own_Goes _ _ _ _ _ _ _ (T10.setTop (mkF m 43 #[.val (.ref x0), .val (.long x1), .second, .val (.long x2), .second] []))
    refine own_endV X10 hx Bd.notSynchronized Bd.returns (hb hby d22_43) ?_ (by decide) (by decide)
    show own_F22 Z x0 x1 x2 n0 h0 _ T10.heap _
    rw [e10]
    exact ⟨rfl, N15, K14, f11, f12, f13⟩
  obtain ⟨t2, o2, q1, q2, q3, q4⟩ := hgo
  exact ⟨t2, o2, castTop (ef_22 m x0 x1 x2) q1, q2, q3, q4⟩
theorem d21_0 : decode prog_49_method_1_code 0 = .ok (.aload_n 0, 1) := by decide +kernel
theorem d21_1 : decode prog_49_method_1_code 1 = .ok (.invokespecial 1, 3) := by decide +kernel
theorem d21_4 : decode prog_49_method_1_code 4 = .ok (.aload_n 0, 1) := by decide +kernel
theorem d21_5 : decode prog_49_method_1_code 5 = .ok (.iload 6, 2) := by decide +kernel
theorem d21_7 : decode prog_49_method_1_code 7 = .ok (.aload_n 1, 1) := by decide +kernel
theorem d21_8 : decode prog_49_method_1_code 8 = .ok (.arraylength, 1) := by decide +kernel
theorem d21_9 : decode prog_49_method_1_code 9 = .ok (.if_icmp .ne 7, 3) := by decide +kernel
theorem d21_12 : decode prog_49_method_1_code 12 = .ok (.aload_n 1, 1) := by decide +kernel
theorem d21_13 : decode prog_49_method_1_code 13 = .ok (.goto 9, 3) := by decide +kernel
theorem d21_16 : decode prog_49_method_1_code 16 = .ok (.aload_n 1, 1) := by decide +kernel
theorem d21_17 : decode prog_49_method_1_code 17 = .ok (.iload 6, 2) := by decide +kernel
theorem d21_19 : decode prog_49_method_1_code 19 = .ok (.invokestatic 7, 3) := by decide +kernel
theorem d21_22 : decode prog_49_method_1_code 22 = .ok (.putfield 13, 3) := by decide +kernel
theorem d21_25 : decode prog_49_method_1_code 25 = .ok (.aload_n 0, 1) := by decide +kernel
theorem d21_26 : decode prog_49_method_1_code 26 = .ok (.aload_n 2, 1) := by decide +kernel
theorem d21_27 : decode prog_49_method_1_code 27 = .ok (.ifnull 10, 3) := by decide +kernel
theorem d21_30 : decode prog_49_method_1_code 30 = .ok (.iload 6, 2) := by decide +kernel
theorem d21_32 : decode prog_49_method_1_code 32 = .ok (.aload_n 2, 1) := by decide +kernel
theorem d21_33 : decode prog_49_method_1_code 33 = .ok (.arraylength, 1) := by decide +kernel
theorem d21_34 : decode prog_49_method_1_code 34 = .ok (.if_icmp .ne 7, 3) := by decide +kernel
theorem d21_37 : decode prog_49_method_1_code 37 = .ok (.aload_n 2, 1) := by decide +kernel
theorem d21_38 : decode prog_49_method_1_code 38 = .ok (.goto 9, 3) := by decide +kernel
theorem d21_41 : decode prog_49_method_1_code 41 = .ok (.aload_n 2, 1) := by decide +kernel
theorem d21_42 : decode prog_49_method_1_code 42 = .ok (.iload 6, 2) := by decide +kernel
theorem d21_44 : decode prog_49_method_1_code 44 = .ok (.invokestatic 7, 3) := by decide +kernel
theorem d21_47 : decode prog_49_method_1_code 47 = .ok (.putfield 19, 3) := by decide +kernel
theorem d21_50 : decode prog_49_method_1_code 50 = .ok (.aload_n 0, 1) := by decide +kernel
theorem d21_51 : decode prog_49_method_1_code 51 = .ok (.aload_n 2, 1) := by decide +kernel
theorem d21_52 : decode prog_49_method_1_code 52 = .ok (.ifnonnull 7, 3) := by decide +kernel
theorem d21_55 : decode prog_49_method_1_code 55 = .ok (.lload_n 3, 1) := by decide +kernel
theorem d21_56 : decode prog_49_method_1_code 56 = .ok (.goto 4, 3) := by decide +kernel
theorem d21_59 : decode prog_49_method_1_code 59 = .ok (.lconst 0, 1) := by decide +kernel
theorem d21_60 : decode prog_49_method_1_code 60 = .ok (.putfield 22, 3) := by decide +kernel
theorem d21_63 : decode prog_49_method_1_code 63 = .ok (.aload_n 0, 1) := by decide +kernel
theorem d21_64 : decode prog_49_method_1_code 64 = .ok (.aload 5, 2) := by decide +kernel
theorem d21_66 : decode prog_49_method_1_code 66 = .ok (.ifnull 11, 3) := by decide +kernel
theorem d21_69 : decode prog_49_method_1_code 69 = .ok (.iload 6, 2) := by decide +kernel
theorem d21_71 : decode prog_49_method_1_code 71 = .ok (.aload 5, 2) := by decide +kernel
theorem d21_73 : decode prog_49_method_1_code 73 = .ok (.arraylength, 1) := by decide +kernel
theorem d21_74 : decode prog_49_method_1_code 74 = .ok (.if_icmp .ne 8, 3) := by decide +kernel
theorem d21_77 : decode prog_49_method_1_code 77 = .ok (.aload 5, 2) := by decide +kernel
theorem d21_79 : decode prog_49_method_1_code 79 = .ok (.goto 10, 3) := by decide +kernel
theorem d21_82 : decode prog_49_method_1_code 82 = .ok (.aload 5, 2) := by decide +kernel
theorem d21_84 : decode prog_49_method_1_code 84 = .ok (.iload 6, 2) := by decide +kernel
theorem d21_86 : decode prog_49_method_1_code 86 = .ok (.invokestatic 26, 3) := by decide +kernel
theorem d21_89 : decode prog_49_method_1_code 89 = .ok (.putfield 29, 3) := by decide +kernel
theorem d21_92 : decode prog_49_method_1_code 92 = .ok (.aload_n 2, 1) := by decide +kernel
theorem d21_93 : decode prog_49_method_1_code 93 = .ok (.ifnonnull 11, 3) := by decide +kernel
theorem d21_96 : decode prog_49_method_1_code 96 = .ok (.lload_n 3, 1) := by decide +kernel
theorem d21_97 : decode prog_49_method_1_code 97 = .ok (.iload 6, 2) := by decide +kernel
theorem d21_99 : decode prog_49_method_1_code 99 = .ok (.i2l, 1) := by decide +kernel
theorem d21_100 : decode prog_49_method_1_code 100 = .ok (.lmul, 1) := by decide +kernel
theorem d21_101 : decode prog_49_method_1_code 101 = .ok (.goto 4, 3) := by decide +kernel
theorem d21_104 : decode prog_49_method_1_code 104 = .ok (.lconst 0, 1) := by decide +kernel
theorem d21_105 : decode prog_49_method_1_code 105 = .ok (.lstore 7, 2) := by decide +kernel
theorem d21_107 : decode prog_49_method_1_code 107 = .ok (.aload_n 2, 1) := by decide +kernel
theorem d21_108 : decode prog_49_method_1_code 108 = .ok (.ifnull 28, 3) := by decide +kernel
theorem d21_111 : decode prog_49_method_1_code 111 = .ok (.iconst 0, 1) := by decide +kernel
theorem d21_112 : decode prog_49_method_1_code 112 = .ok (.istore 9, 2) := by decide +kernel
theorem d21_114 : decode prog_49_method_1_code 114 = .ok (.iload 9, 2) := by decide +kernel
theorem d21_116 : decode prog_49_method_1_code 116 = .ok (.iload 6, 2) := by decide +kernel
theorem d21_118 : decode prog_49_method_1_code 118 = .ok (.if_icmp .ge 18, 3) := by decide +kernel
theorem d21_121 : decode prog_49_method_1_code 121 = .ok (.lload 7, 2) := by decide +kernel
theorem d21_123 : decode prog_49_method_1_code 123 = .ok (.aload_n 2, 1) := by decide +kernel
theorem d21_124 : decode prog_49_method_1_code 124 = .ok (.iload 9, 2) := by decide +kernel
theorem d21_126 : decode prog_49_method_1_code 126 = .ok (.laload, 1) := by decide +kernel
theorem d21_127 : decode prog_49_method_1_code 127 = .ok (.ladd, 1) := by decide +kernel
theorem d21_128 : decode prog_49_method_1_code 128 = .ok (.lstore 7, 2) := by decide +kernel
theorem d21_130 : decode prog_49_method_1_code 130 = .ok (.iinc 9 1, 3) := by decide +kernel
theorem d21_133 : decode prog_49_method_1_code 133 = .ok (.goto (-19), 3) := by decide +kernel
theorem d21_136 : decode prog_49_method_1_code 136 = .ok (.iconst 0, 1) := by decide +kernel
theorem d21_137 : decode prog_49_method_1_code 137 = .ok (.istore 9, 2) := by decide +kernel
theorem d21_139 : decode prog_49_method_1_code 139 = .ok (.aload 5, 2) := by decide +kernel
theorem d21_141 : decode prog_49_method_1_code 141 = .ok (.ifnull 37, 3) := by decide +kernel
theorem d21_144 : decode prog_49_method_1_code 144 = .ok (.iconst 0, 1) := by decide +kernel
theorem d21_145 : decode prog_49_method_1_code 145 = .ok (.istore 10, 2) := by decide +kernel
theorem d21_147 : decode prog_49_method_1_code 147 = .ok (.iload 10, 2) := by decide +kernel
theorem d21_149 : decode prog_49_method_1_code 149 = .ok (.iload 6, 2) := by decide +kernel
theorem d21_151 : decode prog_49_method_1_code 151 = .ok (.if_icmp .ge 27, 3) := by decide +kernel
theorem d21_154 : decode prog_49_method_1_code 154 = .ok (.iload 9, 2) := by decide +kernel
theorem d21_156 : decode prog_49_method_1_code 156 = .ok (.aload 5, 2) := by decide +kernel
theorem d21_158 : decode prog_49_method_1_code 158 = .ok (.iload 10, 2) := by decide +kernel
theorem d21_160 : decode prog_49_method_1_code 160 = .ok (.baload, 1) := by decide +kernel
theorem d21_161 : decode prog_49_method_1_code 161 = .ok (.ifCond .eq 7, 3) := by decide +kernel
theorem d21_164 : decode prog_49_method_1_code 164 = .ok (.iconst 1, 1) := by decide +kernel
theorem d21_165 : decode prog_49_method_1_code 165 = .ok (.goto 4, 3) := by decide +kernel
theorem d21_168 : decode prog_49_method_1_code 168 = .ok (.iconst 0, 1) := by decide +kernel
theorem d21_169 : decode prog_49_method_1_code 169 = .ok (.iadd, 1) := by decide +kernel
theorem d21_170 : decode prog_49_method_1_code 170 = .ok (.istore 9, 2) := by decide +kernel
theorem d21_172 : decode prog_49_method_1_code 172 = .ok (.iinc 10 1, 3) := by decide +kernel
theorem d21_175 : decode prog_49_method_1_code 175 = .ok (.goto (-28), 3) := by decide +kernel
theorem d21_178 : decode prog_49_method_1_code 178 = .ok (.aload_n 0, 1) := by decide +kernel
theorem d21_179 : decode prog_49_method_1_code 179 = .ok (.lload 7, 2) := by decide +kernel
theorem d21_181 : decode prog_49_method_1_code 181 = .ok (.putfield 33, 3) := by decide +kernel
theorem d21_184 : decode prog_49_method_1_code 184 = .ok (.aload_n 0, 1) := by decide +kernel
theorem d21_185 : decode prog_49_method_1_code 185 = .ok (.iload 9, 2) := by decide +kernel
theorem d21_187 : decode prog_49_method_1_code 187 = .ok (.putfield 36, 3) := by decide +kernel
theorem d21_190 : decode prog_49_method_1_code 190 = .ok (.aload_n 0, 1) := by decide +kernel
theorem d21_191 : decode prog_49_method_1_code 191 = .ok (.iload 6, 2) := by decide +kernel
theorem d21_193 : decode prog_49_method_1_code 193 = .ok (.ifCond .ne 9, 3) := by decide +kernel
theorem d21_196 : decode prog_49_method_1_code 196 = .ok (.invokestatic 40, 3) := by decide +kernel
theorem d21_199 : decode prog_49_method_1_code 199 = .ok (.goto 22, 3) := by decide +kernel
theorem d21_202 : decode prog_49_method_1_code 202 = .ok (.new 46, 3) := by decide +kernel
theorem d21_205 : decode prog_49_method_1_code 205 = .ok (.dup, 1) := by decide +kernel
theorem d21_206 : decode prog_49_method_1_code 206 = .ok (.aload_n 1, 1) := by decide +kernel
theorem d21_207 : decode prog_49_method_1_code 207 = .ok (.iconst 0, 1) := by decide +kernel
theorem d21_208 : decode prog_49_method_1_code 208 = .ok (.laload, 1) := by decide +kernel
theorem d21_209 : decode prog_49_method_1_code 209 = .ok (.aload_n 1, 1) := by decide +kernel
theorem d21_210 : decode prog_49_method_1_code 210 = .ok (.iload 6, 2) := by decide +kernel
theorem d21_212 : decode prog_49_method_1_code 212 = .ok (.iconst 1, 1) := by decide +kernel
theorem d21_213 : decode prog_49_method_1_code 213 = .ok (.isub, 1) := by decide +kernel
theorem d21_214 : decode prog_49_method_1_code 214 = .ok (.laload, 1) := by decide +kernel
theorem d21_215 : decode prog_49_method_1_code 215 = .ok (.invokespecial 48, 3) := by decide +kernel
theorem d21_218 : decode prog_49_method_1_code 218 = .ok (.invokestatic 51, 3) := by decide +kernel
theorem d21_221 : decode prog_49_method_1_code 221 = .ok (.putfield 55, 3) := by decide +kernel
theorem d21_224 : decode prog_49_method_1_code 224 = .ok (.return_, 1) := by decide +kernel
theorem pn_21 : plainName "com/example/strati/strati/sim/RunEntries" = true := by first | (simp [plainName, overriddenIn]; done) | decide +kernel
theorem pd_21 : parseMethodDescriptor "([J[JJ[ZI)V" = some ⟨[(.array .long), (.array .long), .long, (.array .boolean), .int], none⟩ := by decide +kernel
theorem ef_21z (m : MethodId) (x0 : Addr) (x1 : Addr) (x3 : Int64) : entryFrame m #[(.ref x0), (.ref x1), .null, (.long x3), .null, (.int (1 : Int32))] 11 = mkF m 0 #[.val (.ref x0), .val (.ref x1), .val .null, .val (.long x3), .second, .val .null, .val (.int (1 : Int32)), .unset, .unset, .unset, .unset] [] := by first | (simp [entryFrame, mkF, argsToLocals, Value.category]; done) | rfl
def own_F21z (Z : State) (x0 : Addr) (x1 : Addr) (x3 : Int64) (KB : Nat → Int64) (n0 : Nat) (h0 : Heap) (v : Option Value) (h : Heap) (L : List Loc) : Prop := v = none ∧ Fr n0 L ∧ Keep h0 h [x0] ∧ Exa Z h x0 "com/example/strati/strati/sim/RunEntries" ∧ Fld Z h x0 "com/example/strati/strati/sim/RunEntries" "keys" "[J" (.ref x1) ∧ Fld Z h x0 "com/example/strati/strati/sim/RunEntries" "size" "J" (.long (x3 * ((1 : Int32).toInt64))) ∧ own_Ar Z h x1 .long 1 (fun uu => .long (KB uu))
set_option maxRecDepth 65536 in
set_option maxHeartbeats 40000000 in
theorem own_m21z (l : Launch) (Z : State) (a0 : Array Value) (hw : ∀ d ∈ tables_1, d.before a0 Z = true) (ws : List Jvm.Cond) (x0 : Addr) (x1 : Addr) (x3 : Int64) (KB : Nat → Int64) (n0 : Nat) (h0 : Heap)  (E0 : Exa Z h0 x0 "com/example/strati/strati/sim/RunEntries") (g0 : n0 ≤ x0) (P0 : Fld Z h0 x0 "com/example/strati/strati/sim/RunEntries" "keys" "[J" .null) (P1 : Fld Z h0 x0 "com/example/strati/strati/sim/RunEntries" "sizes" "[J" .null) (P2 : Fld Z h0 x0 "com/example/strati/strati/sim/RunEntries" "entrySize" "J" (.long (0 : Int64))) (P3 : Fld Z h0 x0 "com/example/strati/strati/sim/RunEntries" "deletes" "[Z" .null) (P4 : Fld Z h0 x0 "com/example/strati/strati/sim/RunEntries" "size" "J" (.long (0 : Int64))) (P5 : Fld Z h0 x0 "com/example/strati/strati/sim/RunEntries" "markers" "I" (.int (0 : Int32))) (P6 : Fld Z h0 x0 "com/example/strati/strati/sim/RunEntries" "keyRange" "Ljava/util/Optional;" .null) (RK : own_Ar Z h0 x1 .long 1 (fun uu => .long (KB uu))) (s1 : x0 ≠ x1) :
    MetFree l (⟨"com/example/strati/strati/sim/RunEntries", "<init>", "([J[JJ[ZI)V"⟩ : MethodName) (head1 (Jvm.Cond.code (⟨"com/example/strati/strati/sim/RunEntries", "<init>", "([J[JJ[ZI)V"⟩ : MethodName) prog_49_method_1_code 11 none :: ws) ({ frames := 3, cells := 2, slots := 3, locals := 48 } : Room)) (fun a U => a = #[(.ref x0), (.ref x1), .null, (.long x3), .null, (.int (1 : Int32))] ∧ Z.Warmed39 U.vm ∧ U.heap = h0) (fun _ _ _ _ _ => True) (fun _ U o U' => ∃ v L, o = .returned v ∧ own_F21z Z x0 x1 x3 KB n0 h0 v U'.heap L ∧ FrameEnd U o U' L ({ frames := 3, cells := 2, slots := 3, locals := 48 } : Room).cells ({ frames := 3, cells := 2, slots := 3, locals := 48 } : Room).slots) := by
  refine MetFree.of_bodySF (plainFor_of_name pn_21) hisR ?_
  intro p e s m args below meth c s₁ Bd hml0 hP hK
  obtain ⟨rfl, hZ, hh⟩ := hP
  have hx := Bd.exec
  have hby := Bd.bytes
  have hml : c.maxLocals = 11 := hml0
  have hown : s.vm.findClass "com/example/strati/strati/sim/RunEntries" = some m.cls := findClass_of_methodNamed Bd.named
  have hnm := (name_of_methodNamed Bd.named Bd.method).1
  have X0 : Stand p l e ({ frames := 3, cells := 2, slots := 3, locals := 48 } : Room) s m #[(.ref x0), (.ref x1), .null, (.long x3), .null, (.int (1 : Int32))] below meth c s₁ [] 0 0 := Stand.of_body Bd
  have e0 : s₁.heap = h0 := by rw [← hh, Bd.state]; rfl
  have Z0 : n0 ≤ h0.size := Nat.le_trans g0 (Nat.le_of_lt E0.lt)
  have N0 := Fr.nil n0
  have K0 : Keep h0 h0 [x0] := Keep.refl h0 [x0]
  have hgo : own_Goes p e below s (own_F21z Z x0 x1 x3 KB n0 h0) 2 3 (s₁.setTop (mkF m 0 #[.val (.ref x0), .val (.ref x1), .val .null, .val (.long x3), .second, .val .null, .val (.int (1 : Int32)), .unset, .unset, .unset, .unset] [])) := by
    refine own_Goes.step (fun tq kq => XS.aloadN X0.here hx rfl (hb hby d21_0) rfl rfl kq) ?_
    show own_Goes _ _ _ _ _ _ _ (s₁.setTop (mkF m 1 #[.val (.ref x0), .val (.ref x1), .val .null, .val (.long x3), .second, .val .null, .val (.int (1 : Int32)), .unset, .unset, .unset, .unset] [(.ref x0)]))
    obtain ⟨T1, X1, e1, st1⟩ := initO X0 hx hZ hown (own_at hw 131 rfl) (own_at hw 7 rfl) (own_at hw 8 rfl) e0 (g := (mkF m 1 #[.val (.ref x0), .val (.ref x1), .val .null, .val (.long x3), .second, .val .null, .val (.int (1 : Int32)), .unset, .unset, .unset, .unset] [(.ref x0)])) rfl (by rw [hml]; rfl) rfl (hb hby d21_1) (by decide) (W := 0) (by show 2 * 0 + _ ≤ _; exact Nat.le_of_eq rfl) (by decide)
    refine own_Goes.step st1 ?_
    show own_Goes _ _ _ _ _ _ _ (T1.setTop (mkF m 4 #[.val (.ref x0), .val (.ref x1), .val .null, .val (.long x3), .second, .val .null, .val (.int (1 : Int32)), .unset, .unset, .unset, .unset] []))
    refine own_Goes.step (fun tq kq => XS.aloadN X1.here hx rfl (hb hby d21_4) rfl rfl kq) ?_
    show own_Goes _ _ _ _ _ _ _ (T1.setTop (mkF m 5 #[.val (.ref x0), .val (.ref x1), .val .null, .val (.long x3), .second, .val .null, .val (.int (1 : Int32)), .unset, .unset, .unset, .unset] [(.ref x0)]))
    refine own_Goes.step (fun tq kq => XS.iload X1.here hx rfl (hb hby d21_5) rfl kq) ?_
    show own_Goes _ _ _ _ _ _ _ (T1.setTop (mkF m 7 #[.val (.ref x0), .val (.ref x1), .val .null, .val (.long x3), .second, .val .null, .val (.int (1 : Int32)), .unset, .unset, .unset, .unset] [(.int (1 : Int32)), (.ref x0)]))
    refine own_Goes.step (fun tq kq => XS.aloadN X1.here hx rfl (hb hby d21_7) rfl rfl kq) ?_
    show own_Goes _ _ _ _ _ _ _ (T1.setTop (mkF m 8 #[.val (.ref x0), .val (.ref x1), .val .null, .val (.long x3), .second, .val .null, .val (.int (1 : Int32)), .unset, .unset, .unset, .unset] [(.ref x1), (.int (1 : Int32)), (.ref x0)]))
    refine own_Goes.step (own_alen X1 hx hZ e1 RK (z := (1 : Int32)) (by decide) (g := (mkF m 8 #[.val (.ref x0), .val (.ref x1), .val .null, .val (.long x3), .second, .val .null, .val (.int (1 : Int32)), .unset, .unset, .unset, .unset] [(.ref x1), (.int (1 : Int32)), (.ref x0)])) rfl rfl (hb hby d21_8)) ?_
    show own_Goes _ _ _ _ _ _ _ (T1.setTop (mkF m 9 #[.val (.ref x0), .val (.ref x1), .val .null, .val (.long x3), .second, .val .null, .val (.int (1 : Int32)), .unset, .unset, .unset, .unset] [(.int (1 : Int32)), (.int (1 : Int32)), (.ref x0)]))
    refine own_Goes.step (fun tq kq => XS.icmpNo X1.here hx rfl (hb hby d21_9) rfl (XT.ii_ne_f (by decide)) kq) ?_
    show own_Goes _ _ _ _ _ _ _ (T1.setTop (mkF m 12 #[.val (.ref x0), .val (.ref x1), .val .null, .val (.long x3), .second, .val .null, .val (.int (1 : Int32)), .unset, .unset, .unset, .unset] [(.ref x0)]))
    refine own_Goes.step (fun tq kq => XS.aloadN X1.here hx rfl (hb hby d21_12) rfl rfl kq) ?_
    show own_Goes _ _ _ _ _ _ _ (T1.setTop (mkF m 13 #[.val (.ref x0), .val (.ref x1), .val .null, .val (.long x3), .second, .val .null, .val (.int (1 : Int32)), .unset, .unset, .unset, .unset] [(.ref x1), (.ref x0)]))
    refine own_Goes.step (fun tq kq => XS.goto X1.here hx rfl (pc0 := 13) (pc' := 22) rfl (hb hby d21_13) (by decide) (by decide) kq) ?_
    show own_Goes _ _ _ _ _ _ _ (T1.setTop (mkF m 22 #[.val (.ref x0), .val (.ref x1), .val .null, .val (.long x3), .second, .val .null, .val (.int (1 : Int32)), .unset, .unset, .unset, .unset] [(.ref x1), (.ref x0)]))
    obtain ⟨T3, h3, X3, e3, W3, st3⟩ := putF X1 hx hZ hown (host := "") (Or.inl (own_at hw 132 rfl)) Via.refl e1 (v := (.ref x1)) P0 E0 (Or.inr ⟨(own_at hw 133 rfl), rfl, hnm⟩) (own_at hw 127 rfl) (ty := (.array .long)) (by decide) rfl rfl (g := (mkF m 22 #[.val (.ref x0), .val (.ref x1), .val .null, .val (.long x3), .second, .val .null, .val (.int (1 : Int32)), .unset, .unset, .unset, .unset] [(.ref x1), (.ref x0)])) rfl rfl (hb hby d21_22)
    refine own_Goes.step st3 ?_
    have f4 := E0.wr W3
    have f5 := P0.same W3
    have f6 := P1.other W3 (Or.inr (slot_ne (Or.inr (own_at hw 135 rfl)) (Or.inr (own_at hw 133 rfl)) (by decide) (t := (.array .long)) (t' := (.array .long)) (by decide) (by decide)))
    have f7 := P2.other W3 (Or.inr (slot_ne (Or.inr (own_at hw 137 rfl)) (Or.inr (own_at hw 133 rfl)) (by decide) (t := .long) (t' := (.array .long)) (by decide) (by decide)))
    have f8 := P3.other W3 (Or.inr (slot_ne (Or.inr (own_at hw 139 rfl)) (Or.inr (own_at hw 133 rfl)) (by decide) (t := (.array .boolean)) (t' := (.array .long)) (by decide) (by decide)))
    have f9 := P4.other W3 (Or.inr (slot_ne (Or.inr (own_at hw 141 rfl)) (Or.inr (own_at hw 133 rfl)) (by decide) (t := .long) (t' := (.array .long)) (by decide) (by decide)))
    have f10 := P5.other W3 (Or.inr (slot_ne (Or.inr (own_at hw 143 rfl)) (Or.inr (own_at hw 133 rfl)) (by decide) (t := .int) (t' := (.array .long)) (by decide) (by decide)))
    have f11 := P6.other W3 (Or.inr (slot_ne (Or.inr (own_at hw 180 rfl)) (Or.inr (own_at hw 133 rfl)) (by decide) (t := (.object "java/util/Optional")) (t' := (.array .long)) (by decide) (by decide)))
    have f12 := RK.other W3 (Ne.symm s1)
    have K13 := K0.wr W3 (Or.inl (List.mem_of_getElem? (i := 0) rfl))
    have N14 := Fr.snoc X3 N0 g0
    have Z15 : n0 ≤ h3.size := Nat.le_trans Z0 (Keep.of_wr W3).1
    show own_Goes _ _ _ _ _ _ _ (T3.setTop (mkF m 25 #[.val (.ref x0), .val (.ref x1), .val .null, .val (.long x3), .second, .val .null, .val (.int (1 : Int32)), .unset, .unset, .unset, .unset] []))
    refine own_Goes.step (fun tq kq => XS.aloadN X3.here hx rfl (hb hby d21_25) rfl rfl kq) ?_
    show own_Goes _ _ _ _ _ _ _ (T3.setTop (mkF m 26 #[.val (.ref x0), .val (.ref x1), .val .null, .val (.long x3), .second, .val .null, .val (.int (1 : Int32)), .unset, .unset, .unset, .unset] [(.ref x0)]))
    refine own_Goes.step (fun tq kq => XS.aloadN X3.here hx rfl (hb hby d21_26) rfl rfl kq) ?_
    show own_Goes _ _ _ _ _ _ _ (T3.setTop (mkF m 27 #[.val (.ref x0), .val (.ref x1), .val .null, .val (.long x3), .second, .val .null, .val (.int (1 : Int32)), .unset, .unset, .unset, .unset] [.null, (.ref x0)]))
    refine own_Goes.step (fun tq kq => XS.ifnullYes X3.here hx rfl (pc0 := 27) (pc' := 37) rfl (hb hby d21_27) rfl (by decide) (by decide) kq) ?_
    show own_Goes _ _ _ _ _ _ _ (T3.setTop (mkF m 37 #[.val (.ref x0), .val (.ref x1), .val .null, .val (.long x3), .second, .val .null, .val (.int (1 : Int32)), .unset, .unset, .unset, .unset] [(.ref x0)]))
    refine own_Goes.step (fun tq kq => XS.aloadN X3.here hx rfl (hb hby d21_37) rfl rfl kq) ?_
    show own_Goes _ _ _ _ _ _ _ (T3.setTop (mkF m 38 #[.val (.ref x0), .val (.ref x1), .val .null, .val (.long x3), .second, .val .null, .val (.int (1 : Int32)), .unset, .unset, .unset, .unset] [.null, (.ref x0)]))
    refine own_Goes.step (fun tq kq => XS.goto X3.here hx rfl (pc0 := 38) (pc' := 47) rfl (hb hby d21_38) (by decide) (by decide) kq) ?_
    show own_Goes _ _ _ _ _ _ _ (T3.setTop (mkF m 47 #[.val (.ref x0), .val (.ref x1), .val .null, .val (.long x3), .second, .val .null, .val (.int (1 : Int32)), .unset, .unset, .unset, .unset] [.null, (.ref x0)]))
    obtain ⟨T17, h17, X17, e17, W17, st17⟩ := putF X3 hx hZ hown (host := "") (Or.inl (own_at hw 134 rfl)) Via.refl e3 (v := .null) f6 f4 (Or.inr ⟨(own_at hw 135 rfl), rfl, hnm⟩) (own_at hw 127 rfl) (ty := (.array .long)) (by decide) rfl rfl (g := (mkF m 47 #[.val (.ref x0), .val (.ref x1), .val .null, .val (.long x3), .second, .val .null, .val (.int (1 : Int32)), .unset, .unset, .unset, .unset] [.null, (.ref x0)])) rfl rfl (hb hby d21_47)
    refine own_Goes.step st17 ?_
    have f18 := f4.wr W17
    have f19 := f5.other W17 (Or.inr (slot_ne (Or.inr (own_at hw 133 rfl)) (Or.inr (own_at hw 135 rfl)) (by decide) (t := (.array .long)) (t' := (.array .long)) (by decide) (by decide)))
    have f20 := f6.same W17
    have f21 := f7.other W17 (Or.inr (slot_ne (Or.inr (own_at hw 137 rfl)) (Or.inr (own_at hw 135 rfl)) (by decide) (t := .long) (t' := (.array .long)) (by decide) (by decide)))
    have f22 := f8.other W17 (Or.inr (slot_ne (Or.inr (own_at hw 139 rfl)) (Or.inr (own_at hw 135 rfl)) (by decide) (t := (.array .boolean)) (t' := (.array .long)) (by decide) (by decide)))
    have f23 := f9.other W17 (Or.inr (slot_ne (Or.inr (own_at hw 141 rfl)) (Or.inr (own_at hw 135 rfl)) (by decide) (t := .long) (t' := (.array .long)) (by decide) (by decide)))
    have f24 := f10.other W17 (Or.inr (slot_ne (Or.inr (own_at hw 143 rfl)) (Or.inr (own_at hw 135 rfl)) (by decide) (t := .int) (t' := (.array .long)) (by decide) (by decide)))
    have f25 := f11.other W17 (Or.inr (slot_ne (Or.inr (own_at hw 180 rfl)) (Or.inr (own_at hw 135 rfl)) (by decide) (t := (.object "java/util/Optional")) (t' := (.array .long)) (by decide) (by decide)))
    have f26 := f12.other W17 (Ne.symm s1)
    have K27 := K13.wr W17 (Or.inl (List.mem_of_getElem? (i := 0) rfl))
    have N28 := Fr.snoc X17 N14 g0
    have Z29 : n0 ≤ h17.size := Nat.le_trans Z15 (Keep.of_wr W17).1
    show own_Goes _ _ _ _ _ _ _ (T17.setTop (mkF m 50 #[.val (.ref x0), .val (.ref x1), .val .null, .val (.long x3), .second, .val .null, .val (.int (1 : Int32)), .unset, .unset, .unset, .unset] []))
    refine own_Goes.step (fun tq kq => XS.aloadN X17.here hx rfl (hb hby d21_50) rfl rfl kq) ?_
    show own_Goes _ _ _ _ _ _ _ (T17.setTop (mkF m 51 #[.val (.ref x0), .val (.ref x1), .val .null, .val (.long x3), .second, .val .null, .val (.int (1 : Int32)), .unset, .unset, .unset, .unset] [(.ref x0)]))
    refine own_Goes.step (fun tq kq => XS.aloadN X17.here hx rfl (hb hby d21_51) rfl rfl kq) ?_
    show own_Goes _ _ _ _ _ _ _ (T17.setTop (mkF m 52 #[.val (.ref x0), .val (.ref x1), .val .null, .val (.long x3), .second, .val .null, .val (.int (1 : Int32)), .unset, .unset, .unset, .unset] [.null, (.ref x0)]))
    refine own_Goes.step (fun tq kq => XT.ifnonnullNo X17.here hx rfl (hb hby d21_52) rfl kq) ?_
    show own_Goes _ _ _ _ _ _ _ (T17.setTop (mkF m 55 #[.val (.ref x0), .val (.ref x1), .val .null, .val (.long x3), .second, .val .null, .val (.int (1 : Int32)), .unset, .unset, .unset, .unset] [(.ref x0)]))
    refine own_Goes.step (fun tq kq => XT.lloadN X17.here hx rfl (hb hby d21_55) rfl kq) ?_
    show own_Goes _ _ _ _ _ _ _ (T17.setTop (mkF m 56 #[.val (.ref x0), .val (.ref x1), .val .null, .val (.long x3), .second, .val .null, .val (.int (1 : Int32)), .unset, .unset, .unset, .unset] [(.long x3), (.ref x0)]))
    refine own_Goes.step (fun tq kq => XS.goto X17.here hx rfl (pc0 := 56) (pc' := 60) rfl (hb hby d21_56) (by decide) (by decide) kq) ?_
    show own_Goes _ _ _ _ _ _ _ (T17.setTop (mkF m 60 #[.val (.ref x0), .val (.ref x1), .val .null, .val (.long x3), .second, .val .null, .val (.int (1 : Int32)), .unset, .unset, .unset, .unset] [(.long x3), (.ref x0)]))
    obtain ⟨T31, h31, X31, e31, W31, st31⟩ := putF X17 hx hZ hown (host := "") (Or.inl (own_at hw 136 rfl)) Via.refl e17 (v := (.long x3)) f21 f18 (Or.inr ⟨(own_at hw 137 rfl), rfl, hnm⟩) (own_at hw 127 rfl) (ty := .long) (by decide) rfl rfl (g := (mkF m 60 #[.val (.ref x0), .val (.ref x1), .val .null, .val (.long x3), .second, .val .null, .val (.int (1 : Int32)), .unset, .unset, .unset, .unset] [(.long x3), (.ref x0)])) rfl rfl (hb hby d21_60)
    refine own_Goes.step st31 ?_
    have f32 := f18.wr W31
    have f33 := f19.other W31 (Or.inr (slot_ne (Or.inr (own_at hw 133 rfl)) (Or.inr (own_at hw 137 rfl)) (by decide) (t := (.array .long)) (t' := .long) (by decide) (by decide)))
    have f34 := f20.other W31 (Or.inr (slot_ne (Or.inr (own_at hw 135 rfl)) (Or.inr (own_at hw 137 rfl)) (by decide) (t := (.array .long)) (t' := .long) (by decide) (by decide)))
    have f35 := f21.same W31
    have f36 := f22.other W31 (Or.inr (slot_ne (Or.inr (own_at hw 139 rfl)) (Or.inr (own_at hw 137 rfl)) (by decide) (t := (.array .boolean)) (t' := .long) (by decide) (by decide)))
    have f37 := f23.other W31 (Or.inr (slot_ne (Or.inr (own_at hw 141 rfl)) (Or.inr (own_at hw 137 rfl)) (by decide) (t := .long) (t' := .long) (by decide) (by decide)))
    have f38 := f24.other W31 (Or.inr (slot_ne (Or.inr (own_at hw 143 rfl)) (Or.inr (own_at hw 137 rfl)) (by decide) (t := .int) (t' := .long) (by decide) (by decide)))
    have f39 := f25.other W31 (Or.inr (slot_ne (Or.inr (own_at hw 180 rfl)) (Or.inr (own_at hw 137 rfl)) (by decide) (t := (.object "java/util/Optional")) (t' := .long) (by decide) (by decide)))
    have f40 := f26.other W31 (Ne.symm s1)
    have K41 := K27.wr W31 (Or.inl (List.mem_of_getElem? (i := 0) rfl))
    have N42 := Fr.snoc X31 N28 g0
    have Z43 : n0 ≤ h31.size := Nat.le_trans Z29 (Keep.of_wr W31).1
    show own_Goes _ _ _ _ _ _ _ (T31.setTop (mkF m 63 #[.val (.ref x0), .val (.ref x1), .val .null, .val (.long x3), .second, .val .null, .val (.int (1 : Int32)), .unset, .unset, .unset, .unset] []))
    refine own_Goes.step (fun tq kq => XS.aloadN X31.here hx rfl (hb hby d21_63) rfl rfl kq) ?_
    show own_Goes _ _ _ _ _ _ _ (T31.setTop (mkF m 64 #[.val (.ref x0), .val (.ref x1), .val .null, .val (.long x3), .second, .val .null, .val (.int (1 : Int32)), .unset, .unset, .unset, .unset] [(.ref x0)]))
    refine own_Goes.step (fun tq kq => XS.aload X31.here hx rfl (hb hby d21_64) rfl rfl kq) ?_
    show own_Goes _ _ _ _ _ _ _ (T31.setTop (mkF m 66 #[.val (.ref x0), .val (.ref x1), .val .null, .val (.long x3), .second, .val .null, .val (.int (1 : Int32)), .unset, .unset, .unset, .unset] [.null, (.ref x0)]))
    refine own_Goes.step (fun tq kq => XS.ifnullYes X31.here hx rfl (pc0 := 66) (pc' := 77) rfl (hb hby d21_66) rfl (by decide) (by decide) kq) ?_
    show own_Goes _ _ _ _ _ _ _ (T31.setTop (mkF m 77 #[.val (.ref x0), .val (.ref x1), .val .null, .val (.long x3), .second, .val .null, .val (.int (1 : Int32)), .unset, .unset, .unset, .unset] [(.ref x0)]))
    refine own_Goes.step (fun tq kq => XS.aload X31.here hx rfl (hb hby d21_77) rfl rfl kq) ?_
    show own_Goes _ _ _ _ _ _ _ (T31.setTop (mkF m 79 #[.val (.ref x0), .val (.ref x1), .val .null, .val (.long x3), .second, .val .null, .val (.int (1 : Int32)), .unset, .unset, .unset, .unset] [.null, (.ref x0)]))
    refine own_Goes.step (fun tq kq => XS.goto X31.here hx rfl (pc0 := 79) (pc' := 89) rfl (hb hby d21_79) (by decide) (by decide) kq) ?_
    show own_Goes _ _ _ _ _ _ _ (T31.setTop (mkF m 89 #[.val (.ref x0), .val (.ref x1), .val .null, .val (.long x3), .second, .val .null, .val (.int (1 : Int32)), .unset, .unset, .unset, .unset] [.null, (.ref x0)]))
    obtain ⟨T45, h45, X45, e45, W45, st45⟩ := putF X31 hx hZ hown (host := "") (Or.inl (own_at hw 138 rfl)) Via.refl e31 (v := .null) f36 f32 (Or.inr ⟨(own_at hw 139 rfl), rfl, hnm⟩) (own_at hw 127 rfl) (ty := (.array .boolean)) (by decide) rfl rfl (g := (mkF m 89 #[.val (.ref x0), .val (.ref x1), .val .null, .val (.long x3), .second, .val .null, .val (.int (1 : Int32)), .unset, .unset, .unset, .unset] [.null, (.ref x0)])) rfl rfl (hb hby d21_89)
    refine own_Goes.step st45 ?_
    have f46 := f32.wr W45
    have f47 := f33.other W45 (Or.inr (slot_ne (Or.inr (own_at hw 133 rfl)) (Or.inr (own_at hw 139 rfl)) (by decide) (t := (.array .long)) (t' := (.array .boolean)) (by decide) (by decide)))
    have f48 := f34.other W45 (Or.inr (slot_ne (Or.inr (own_at hw 135 rfl)) (Or.inr (own_at hw 139 rfl)) (by decide) (t := (.array .long)) (t' := (.array .boolean)) (by decide) (by decide)))
    have f49 := f35.other W45 (Or.inr (slot_ne (Or.inr (own_at hw 137 rfl)) (Or.inr (own_at hw 139 rfl)) (by decide) (t := .long) (t' := (.array .boolean)) (by decide) (by decide)))
    have f50 := f36.same W45
    have f51 := f37.other W45 (Or.inr (slot_ne (Or.inr (own_at hw 141 rfl)) (Or.inr (own_at hw 139 rfl)) (by decide) (t := .long) (t' := (.array .boolean)) (by decide) (by decide)))
    have f52 := f38.other W45 (Or.inr (slot_ne (Or.inr (own_at hw 143 rfl)) (Or.inr (own_at hw 139 rfl)) (by decide) (t := .int) (t' := (.array .boolean)) (by decide) (by decide)))
    have f53 := f39.other W45 (Or.inr (slot_ne (Or.inr (own_at hw 180 rfl)) (Or.inr (own_at hw 139 rfl)) (by decide) (t := (.object "java/util/Optional")) (t' := (.array .boolean)) (by decide) (by decide)))
    have f54 := f40.other W45 (Ne.symm s1)
    have K55 := K41.wr W45 (Or.inl (List.mem_of_getElem? (i := 0) rfl))
    have N56 := Fr.snoc X45 N42 g0
    have Z57 : n0 ≤ h45.size := Nat.le_trans Z43 (Keep.of_wr W45).1
    show own_Goes _ _ _ _ _ _ _ (T45.setTop (mkF m 92 #[.val (.ref x0), .val (.ref x1), .val .null, .val (.long x3), .second, .val .null, .val (.int (1 : Int32)), .unset, .unset, .unset, .unset] []))
    refine own_Goes.step (fun tq kq => XS.aloadN X45.here hx rfl (hb hby d21_92) rfl rfl kq) ?_
    show own_Goes _ _ _ _ _ _ _ (T45.setTop (mkF m 93 #[.val (.ref x0), .val (.ref x1), .val .null, .val (.long x3), .second, .val .null, .val (.int (1 : Int32)), .unset, .unset, .unset, .unset] [.null]))
    refine own_Goes.step (fun tq kq => XT.ifnonnullNo X45.here hx rfl (hb hby d21_93) rfl kq) ?_
    show own_Goes _ _ _ _ _ _ _ (T45.setTop (mkF m 96 #[.val (.ref x0), .val (.ref x1), .val .null, .val (.long x3), .second, .val .null, .val (.int (1 : Int32)), .unset, .unset, .unset, .unset] []))
    refine own_Goes.step (fun tq kq => XT.lloadN X45.here hx rfl (hb hby d21_96) rfl kq) ?_
    show own_Goes _ _ _ _ _ _ _ (T45.setTop (mkF m 97 #[.val (.ref x0), .val (.ref x1), .val .null, .val (.long x3), .second, .val .null, .val (.int (1 : Int32)), .unset, .unset, .unset, .unset] [(.long x3)]))
    refine own_Goes.step (fun tq kq => XS.iload X45.here hx rfl (hb hby d21_97) rfl kq) ?_
    show own_Goes _ _ _ _ _ _ _ (T45.setTop (mkF m 99 #[.val (.ref x0), .val (.ref x1), .val .null, .val (.long x3), .second, .val .null, .val (.int (1 : Int32)), .unset, .unset, .unset, .unset] [(.int (1 : Int32)), (.long x3)]))
    refine own_Goes.step (fun tq kq => XT.i2l X45.here hx rfl (hb hby d21_99) rfl kq) ?_
    show own_Goes _ _ _ _ _ _ _ (T45.setTop (mkF m 100 #[.val (.ref x0), .val (.ref x1), .val .null, .val (.long x3), .second, .val .null, .val (.int (1 : Int32)), .unset, .unset, .unset, .unset] [(.long ((1 : Int32).toInt64)), (.long x3)]))
    refine own_Goes.step (fun tq kq => XT.lmul X45.here hx rfl (hb hby d21_100) rfl kq) ?_
    show own_Goes _ _ _ _ _ _ _ (T45.setTop (mkF m 101 #[.val (.ref x0), .val (.ref x1), .val .null, .val (.long x3), .second, .val .null, .val (.int (1 : Int32)), .unset, .unset, .unset, .unset] [(.long (x3 * ((1 : Int32).toInt64)))]))
    refine own_Goes.step (fun tq kq => XS.goto X45.here hx rfl (pc0 := 101) (pc' := 105) rfl (hb hby d21_101) (by decide) (by decide) kq) ?_
    show own_Goes _ _ _ _ _ _ _ (T45.setTop (mkF m 105 #[.val (.ref x0), .val (.ref x1), .val .null, .val (.long x3), .second, .val .null, .val (.int (1 : Int32)), .unset, .unset, .unset, .unset] [(.long (x3 * ((1 : Int32).toInt64)))]))
    refine own_Goes.step (fun tq kq => XT.lstore X45.here hx rfl (hb hby d21_105) rfl (l' := #[.val (.ref x0), .val (.ref x1), .val .null, .val (.long x3), .second, .val .null, .val (.int (1 : Int32)), .val (.long (x3 * ((1 : Int32).toInt64))), .second, .unset, .unset]) rfl kq) ?_
    show own_Goes _ _ _ _ _ _ _ (T45.setTop (mkF m 107 #[.val (.ref x0), .val (.ref x1), .val .null, .val (.long x3), .second, .val .null, .val (.int (1 : Int32)), .val (.long (x3 * ((1 : Int32).toInt64))), .second, .unset, .unset] []))
    refine own_Goes.step (fun tq kq => XS.aloadN X45.here hx rfl (hb hby d21_107) rfl rfl kq) ?_
    show own_Goes _ _ _ _ _ _ _ (T45.setTop (mkF m 108 #[.val (.ref x0), .val (.ref x1), .val .null, .val (.long x3), .second, .val .null, .val (.int (1 : Int32)), .val (.long (x3 * ((1 : Int32).toInt64))), .second, .unset, .unset] [.null]))
    refine own_Goes.step (fun tq kq => XS.ifnullYes X45.here hx rfl (pc0 := 108) (pc' := 136) rfl (hb hby d21_108) rfl (by decide) (by decide) kq) ?_
    show own_Goes _ _ _ _ _ _ _ (T45.setTop (mkF m 136 #[.val (.ref x0), .val (.ref x1), .val .null, .val (.long x3), .second, .val .null, .val (.int (1 : Int32)), .val (.long (x3 * ((1 : Int32).toInt64))), .second, .unset, .unset] []))
    refine own_Goes.step (fun tq kq => XT.iconstV X45.here hx rfl (0 : Int32) (hb hby d21_136) (by decide) kq) ?_
    show own_Goes _ _ _ _ _ _ _ (T45.setTop (mkF m 137 #[.val (.ref x0), .val (.ref x1), .val .null, .val (.long x3), .second, .val .null, .val (.int (1 : Int32)), .val (.long (x3 * ((1 : Int32).toInt64))), .second, .unset, .unset] [(.int (0 : Int32))]))
    refine own_Goes.step (fun tq kq => XS.istore X45.here hx rfl (hb hby d21_137) rfl (l' := #[.val (.ref x0), .val (.ref x1), .val .null, .val (.long x3), .second, .val .null, .val (.int (1 : Int32)), .val (.long (x3 * ((1 : Int32).toInt64))), .second, .val (.int (0 : Int32)), .unset]) rfl kq) ?_
    show own_Goes _ _ _ _ _ _ _ (T45.setTop (mkF m 139 #[.val (.ref x0), .val (.ref x1), .val .null, .val (.long x3), .second, .val .null, .val (.int (1 : Int32)), .val (.long (x3 * ((1 : Int32).toInt64))), .second, .val (.int (0 : Int32)), .unset] []))
    refine own_Goes.step (fun tq kq => XS.aload X45.here hx rfl (hb hby d21_139) rfl rfl kq) ?_
    show own_Goes _ _ _ _ _ _ _ (T45.setTop (mkF m 141 #[.val (.ref x0), .val (.ref x1), .val .null, .val (.long x3), .second, .val .null, .val (.int (1 : Int32)), .val (.long (x3 * ((1 : Int32).toInt64))), .second, .val (.int (0 : Int32)), .unset] [.null]))
    refine own_Goes.step (fun tq kq => XS.ifnullYes X45.here hx rfl (pc0 := 141) (pc' := 178) rfl (hb hby d21_141) rfl (by decide) (by decide) kq) ?_
    show own_Goes _ _ _ _ _ _ _ (T45.setTop (mkF m 178 #[.val (.ref x0), .val (.ref x1), .val .null, .val (.long x3), .second, .val .null, .val (.int (1 : Int32)), .val (.long (x3 * ((1 : Int32).toInt64))), .second, .val (.int (0 : Int32)), .unset] []))
    refine own_Goes.step (fun tq kq => XS.aloadN X45.here hx rfl (hb hby d21_178) rfl rfl kq) ?_
    show own_Goes _ _ _ _ _ _ _ (T45.setTop (mkF m 179 #[.val (.ref x0), .val (.ref x1), .val .null, .val (.long x3), .second, .val .null, .val (.int (1 : Int32)), .val (.long (x3 * ((1 : Int32).toInt64))), .second, .val (.int (0 : Int32)), .unset] [(.ref x0)]))
    refine own_Goes.step (fun tq kq => XT.lload X45.here hx rfl (hb hby d21_179) rfl kq) ?_
    show own_Goes _ _ _ _ _ _ _ (T45.setTop (mkF m 181 #[.val (.ref x0), .val (.ref x1), .val .null, .val (.long x3), .second, .val .null, .val (.int (1 : Int32)), .val (.long (x3 * ((1 : Int32).toInt64))), .second, .val (.int (0 : Int32)), .unset] [(.long (x3 * ((1 : Int32).toInt64))), (.ref x0)]))
    obtain ⟨T61, h61, X61, e61, W61, st61⟩ := putF X45 hx hZ hown (host := "") (Or.inl (own_at hw 140 rfl)) Via.refl e45 (v := (.long (x3 * ((1 : Int32).toInt64)))) f51 f46 (Or.inr ⟨(own_at hw 141 rfl), rfl, hnm⟩) (own_at hw 127 rfl) (ty := .long) (by decide) rfl rfl (g := (mkF m 181 #[.val (.ref x0), .val (.ref x1), .val .null, .val (.long x3), .second, .val .null, .val (.int (1 : Int32)), .val (.long (x3 * ((1 : Int32).toInt64))), .second, .val (.int (0 : Int32)), .unset] [(.long (x3 * ((1 : Int32).toInt64))), (.ref x0)])) rfl rfl (hb hby d21_181)
    refine own_Goes.step st61 ?_
    have f62 := f46.wr W61
    have f63 := f47.other W61 (Or.inr (slot_ne (Or.inr (own_at hw 133 rfl)) (Or.inr (own_at hw 141 rfl)) (by decide) (t := (.array .long)) (t' := .long) (by decide) (by decide)))
    have f64 := f48.other W61 (Or.inr (slot_ne (Or.inr (own_at hw 135 rfl)) (Or.inr (own_at hw 141 rfl)) (by decide) (t := (.array .long)) (t' := .long) (by decide) (by decide)))
    have f65 := f49.other W61 (Or.inr (slot_ne (Or.inr (own_at hw 137 rfl)) (Or.inr (own_at hw 141 rfl)) (by decide) (t := .long) (t' := .long) (by decide) (by decide)))
    have f66 := f50.other W61 (Or.inr (slot_ne (Or.inr (own_at hw 139 rfl)) (Or.inr (own_at hw 141 rfl)) (by decide) (t := (.array .boolean)) (t' := .long) (by decide) (by decide)))
    have f67 := f51.same W61
    have f68 := f52.other W61 (Or.inr (slot_ne (Or.inr (own_at hw 143 rfl)) (Or.inr (own_at hw 141 rfl)) (by decide) (t := .int) (t' := .long) (by decide) (by decide)))
    have f69 := f53.other W61 (Or.inr (slot_ne (Or.inr (own_at hw 180 rfl)) (Or.inr (own_at hw 141 rfl)) (by decide) (t := (.object "java/util/Optional")) (t' := .long) (by decide) (by decide)))
    have f70 := f54.other W61 (Ne.symm s1)
    have K71 := K55.wr W61 (Or.inl (List.mem_of_getElem? (i := 0) rfl))
    have N72 := Fr.snoc X61 N56 g0
    have Z73 : n0 ≤ h61.size := Nat.le_trans Z57 (Keep.of_wr W61).1
    show own_Goes _ _ _ _ _ _ _ (T61.setTop (mkF m 184 #[.val (.ref x0), .val (.ref x1), .val .null, .val (.long x3), .second, .val .null, .val (.int (1 : Int32)), .val (.long (x3 * ((1 : Int32).toInt64))), .second, .val (.int (0 : Int32)), .unset] []))
    refine own_Goes.step (fun tq kq => XS.aloadN X61.here hx rfl (hb hby d21_184) rfl rfl kq) ?_
    show own_Goes _ _ _ _ _ _ _ (T61.setTop (mkF m 185 #[.val (.ref x0), .val (.ref x1), .val .null, .val (.long x3), .second, .val .null, .val (.int (1 : Int32)), .val (.long (x3 * ((1 : Int32).toInt64))), .second, .val (.int (0 : Int32)), .unset] [(.ref x0)]))
    refine own_Goes.step (fun tq kq => XS.iload X61.here hx rfl (hb hby d21_185) rfl kq) ?_
    show own_Goes _ _ _ _ _ _ _ (T61.setTop (mkF m 187 #[.val (.ref x0), .val (.ref x1), .val .null, .val (.long x3), .second, .val .null, .val (.int (1 : Int32)), .val (.long (x3 * ((1 : Int32).toInt64))), .second, .val (.int (0 : Int32)), .unset] [(.int (0 : Int32)), (.ref x0)]))
    obtain ⟨T74, h74, X74, e74, W74, st74⟩ := putF X61 hx hZ hown (host := "") (Or.inl (own_at hw 142 rfl)) Via.refl e61 (v := (.int (0 : Int32))) f68 f62 (Or.inr ⟨(own_at hw 143 rfl), rfl, hnm⟩) (own_at hw 127 rfl) (ty := .int) (by decide) rfl rfl (g := (mkF m 187 #[.val (.ref x0), .val (.ref x1), .val .null, .val (.long x3), .second, .val .null, .val (.int (1 : Int32)), .val (.long (x3 * ((1 : Int32).toInt64))), .second, .val (.int (0 : Int32)), .unset] [(.int (0 : Int32)), (.ref x0)])) rfl rfl (hb hby d21_187)
    refine own_Goes.step st74 ?_
    have f75 := f62.wr W74
    have f76 := f63.other W74 (Or.inr (slot_ne (Or.inr (own_at hw 133 rfl)) (Or.inr (own_at hw 143 rfl)) (by decide) (t := (.array .long)) (t' := .int) (by decide) (by decide)))
    have f77 := f64.other W74 (Or.inr (slot_ne (Or.inr (own_at hw 135 rfl)) (Or.inr (own_at hw 143 rfl)) (by decide) (t := (.array .long)) (t' := .int) (by decide) (by decide)))
    have f78 := f65.other W74 (Or.inr (slot_ne (Or.inr (own_at hw 137 rfl)) (Or.inr (own_at hw 143 rfl)) (by decide) (t := .long) (t' := .int) (by decide) (by decide)))
    have f79 := f66.other W74 (Or.inr (slot_ne (Or.inr (own_at hw 139 rfl)) (Or.inr (own_at hw 143 rfl)) (by decide) (t := (.array .boolean)) (t' := .int) (by decide) (by decide)))
    have f80 := f67.other W74 (Or.inr (slot_ne (Or.inr (own_at hw 141 rfl)) (Or.inr (own_at hw 143 rfl)) (by decide) (t := .long) (t' := .int) (by decide) (by decide)))
    have f81 := f68.same W74
    have f82 := f69.other W74 (Or.inr (slot_ne (Or.inr (own_at hw 180 rfl)) (Or.inr (own_at hw 143 rfl)) (by decide) (t := (.object "java/util/Optional")) (t' := .int) (by decide) (by decide)))
    have f83 := f70.other W74 (Ne.symm s1)
    have K84 := K71.wr W74 (Or.inl (List.mem_of_getElem? (i := 0) rfl))
    have N85 := Fr.snoc X74 N72 g0
    have Z86 : n0 ≤ h74.size := Nat.le_trans Z73 (Keep.of_wr W74).1
    show own_Goes _ _ _ _ _ _ _ (T74.setTop (mkF m 190 #[.val (.ref x0), .val (.ref x1), .val .null, .val (.long x3), .second, .val .null, .val (.int (1 : Int32)), .val (.long (x3 * ((1 : Int32).toInt64))), .second, .val (.int (0 : Int32)), .unset] []))
    refine own_Goes.step (fun tq kq => XS.aloadN X74.here hx rfl (hb hby d21_190) rfl rfl kq) ?_
    show own_Goes _ _ _ _ _ _ _ (T74.setTop (mkF m 191 #[.val (.ref x0), .val (.ref x1), .val .null, .val (.long x3), .second, .val .null, .val (.int (1 : Int32)), .val (.long (x3 * ((1 : Int32).toInt64))), .second, .val (.int (0 : Int32)), .unset] [(.ref x0)]))
    refine own_Goes.step (fun tq kq => XS.iload X74.here hx rfl (hb hby d21_191) rfl kq) ?_
    show own_Goes _ _ _ _ _ _ _ (T74.setTop (mkF m 193 #[.val (.ref x0), .val (.ref x1), .val .null, .val (.long x3), .second, .val .null, .val (.int (1 : Int32)), .val (.long (x3 * ((1 : Int32).toInt64))), .second, .val (.int (0 : Int32)), .unset] [(.int (1 : Int32)), (.ref x0)]))
    refine own_Goes.step (fun tq kq => XS.ifYes X74.here hx rfl (pc0 := 193) (pc' := 202) rfl (hb hby d21_193) rfl (XT.i0_ne_t (by decide)) (by decide) (by decide) kq) ?_
    show own_Goes _ _ _ _ _ _ _ (T74.setTop (mkF m 202 #[.val (.ref x0), .val (.ref x1), .val .null, .val (.long x3), .second, .val .null, .val (.int (1 : Int32)), .val (.long (x3 * ((1 : Int32).toInt64))), .second, .val (.int (0 : Int32)), .unset] [(.ref x0)]))
    obtain ⟨T87, h87, X87, e87, E87, A87, D87, -, st87⟩ := newO X74 hx hZ hown (own_at hw 144 rfl) (own_at hw 145 rfl) (own_at hw 146 rfl) e74 (g := (mkF m 202 #[.val (.ref x0), .val (.ref x1), .val .null, .val (.long x3), .second, .val .null, .val (.int (1 : Int32)), .val (.long (x3 * ((1 : Int32).toInt64))), .second, .val (.int (0 : Int32)), .unset] [(.ref x0)])) rfl (hb hby d21_202) (by decide) (by decide)
    obtain ⟨a87, g87⟩ : ∃ z, z = h74.size := ⟨_, rfl⟩
    rw [← g87] at A87 D87 st87
    have ne88 : x0 ≠ a87 := by rw [g87]; exact Nat.ne_of_lt f75.lt
    have ne89 : x1 ≠ a87 := by rw [g87]; exact Nat.ne_of_lt f83.lt
    have f90 := Jvm.RoadKit.Exa.ext E87 f75
    have f91 := Jvm.RoadKit.Fld.ext E87 f76
    have f92 := Jvm.RoadKit.Fld.ext E87 f77
    have f93 := Jvm.RoadKit.Fld.ext E87 f78
    have f94 := Jvm.RoadKit.Fld.ext E87 f79
    have f95 := Jvm.RoadKit.Fld.ext E87 f80
    have f96 := Jvm.RoadKit.Fld.ext E87 f81
    have f97 := Jvm.RoadKit.Fld.ext E87 f82
    have f98 := f83.ext E87
    have f99 : Fld Z h87 a87 "com/example/strati/strati/model/KeyRange" "min" "J" (.long (0 : Int64)) := D87 (Or.inr (own_at hw 159 rfl)) (ty := .long) (by decide)
    have f100 : Fld Z h87 a87 "com/example/strati/strati/model/KeyRange" "max" "J" (.long (0 : Int64)) := D87 (Or.inr (own_at hw 161 rfl)) (ty := .long) (by decide)
    have ga87 : n0 ≤ a87 := Nat.le_trans Z86 (Nat.le_of_eq g87.symm)
    have Z87 : n0 ≤ h87.size := Nat.le_trans Z86 E87.1
    have K87 := K84.ext E87
    have Kh87 : h0.size ≤ a87 := Nat.le_trans K84.1 (Nat.le_of_eq g87.symm)
    refine own_Goes.step st87 ?_
    show own_Goes _ _ _ _ _ _ _ (T87.setTop (mkF m 205 #[.val (.ref x0), .val (.ref x1), .val .null, .val (.long x3), .second, .val .null, .val (.int (1 : Int32)), .val (.long (x3 * ((1 : Int32).toInt64))), .second, .val (.int (0 : Int32)), .unset] [(.ref a87), (.ref x0)]))
    refine own_Goes.step (fun tq kq => XS.dup X87.here hx rfl (hb hby d21_205) rfl rfl kq) ?_
    show own_Goes _ _ _ _ _ _ _ (T87.setTop (mkF m 206 #[.val (.ref x0), .val (.ref x1), .val .null, .val (.long x3), .second, .val .null, .val (.int (1 : Int32)), .val (.long (x3 * ((1 : Int32).toInt64))), .second, .val (.int (0 : Int32)), .unset] [(.ref a87), (.ref a87), (.ref x0)]))
    refine own_Goes.step (fun tq kq => XS.aloadN X87.here hx rfl (hb hby d21_206) rfl rfl kq) ?_
    show own_Goes _ _ _ _ _ _ _ (T87.setTop (mkF m 207 #[.val (.ref x0), .val (.ref x1), .val .null, .val (.long x3), .second, .val .null, .val (.int (1 : Int32)), .val (.long (x3 * ((1 : Int32).toInt64))), .second, .val (.int (0 : Int32)), .unset] [(.ref x1), (.ref a87), (.ref a87), (.ref x0)]))
    refine own_Goes.step (fun tq kq => XT.iconstV X87.here hx rfl (0 : Int32) (hb hby d21_207) (by decide) kq) ?_
    show own_Goes _ _ _ _ _ _ _ (T87.setTop (mkF m 208 #[.val (.ref x0), .val (.ref x1), .val .null, .val (.long x3), .second, .val .null, .val (.int (1 : Int32)), .val (.long (x3 * ((1 : Int32).toInt64))), .second, .val (.int (0 : Int32)), .unset] [(.int (0 : Int32)), (.ref x1), (.ref a87), (.ref a87), (.ref x0)]))
    refine own_Goes.step (own_lald X87 hx hZ e87 f98 (i := 0) rfl (by decide) (v := (.long (KB 0))) rfl (g := (mkF m 208 #[.val (.ref x0), .val (.ref x1), .val .null, .val (.long x3), .second, .val .null, .val (.int (1 : Int32)), .val (.long (x3 * ((1 : Int32).toInt64))), .second, .val (.int (0 : Int32)), .unset] [(.int (0 : Int32)), (.ref x1), (.ref a87), (.ref a87), (.ref x0)])) rfl rfl (hb hby d21_208)) ?_
    show own_Goes _ _ _ _ _ _ _ (T87.setTop (mkF m 209 #[.val (.ref x0), .val (.ref x1), .val .null, .val (.long x3), .second, .val .null, .val (.int (1 : Int32)), .val (.long (x3 * ((1 : Int32).toInt64))), .second, .val (.int (0 : Int32)), .unset] [(.long (KB 0)), (.ref a87), (.ref a87), (.ref x0)]))
    refine own_Goes.step (fun tq kq => XS.aloadN X87.here hx rfl (hb hby d21_209) rfl rfl kq) ?_
    show own_Goes _ _ _ _ _ _ _ (T87.setTop (mkF m 210 #[.val (.ref x0), .val (.ref x1), .val .null, .val (.long x3), .second, .val .null, .val (.int (1 : Int32)), .val (.long (x3 * ((1 : Int32).toInt64))), .second, .val (.int (0 : Int32)), .unset] [(.ref x1), (.long (KB 0)), (.ref a87), (.ref a87), (.ref x0)]))
    refine own_Goes.step (fun tq kq => XS.iload X87.here hx rfl (hb hby d21_210) rfl kq) ?_
    show own_Goes _ _ _ _ _ _ _ (T87.setTop (mkF m 212 #[.val (.ref x0), .val (.ref x1), .val .null, .val (.long x3), .second, .val .null, .val (.int (1 : Int32)), .val (.long (x3 * ((1 : Int32).toInt64))), .second, .val (.int (0 : Int32)), .unset] [(.int (1 : Int32)), (.ref x1), (.long (KB 0)), (.ref a87), (.ref a87), (.ref x0)]))
    refine own_Goes.step (fun tq kq => XT.iconstV X87.here hx rfl (1 : Int32) (hb hby d21_212) (by decide) kq) ?_
    show own_Goes _ _ _ _ _ _ _ (T87.setTop (mkF m 213 #[.val (.ref x0), .val (.ref x1), .val .null, .val (.long x3), .second, .val .null, .val (.int (1 : Int32)), .val (.long (x3 * ((1 : Int32).toInt64))), .second, .val (.int (0 : Int32)), .unset] [(.int (1 : Int32)), (.int (1 : Int32)), (.ref x1), (.long (KB 0)), (.ref a87), (.ref a87), (.ref x0)]))
    refine own_Goes.step (fun tq kq => XS.isub X87.here hx rfl (hb hby d21_213) rfl kq) ?_
    show own_Goes _ _ _ _ _ _ _ (T87.setTop (mkF m 214 #[.val (.ref x0), .val (.ref x1), .val .null, .val (.long x3), .second, .val .null, .val (.int (1 : Int32)), .val (.long (x3 * ((1 : Int32).toInt64))), .second, .val (.int (0 : Int32)), .unset] [(.int (0 : Int32)), (.ref x1), (.long (KB 0)), (.ref a87), (.ref a87), (.ref x0)]))
    refine own_Goes.step (own_lald X87 hx hZ e87 f98 (i := 0) rfl (by decide) (v := (.long (KB 0))) rfl (g := (mkF m 214 #[.val (.ref x0), .val (.ref x1), .val .null, .val (.long x3), .second, .val .null, .val (.int (1 : Int32)), .val (.long (x3 * ((1 : Int32).toInt64))), .second, .val (.int (0 : Int32)), .unset] [(.int (0 : Int32)), (.ref x1), (.long (KB 0)), (.ref a87), (.ref a87), (.ref x0)])) rfl rfl (hb hby d21_214)) ?_
    show own_Goes _ _ _ _ _ _ _ (T87.setTop (mkF m 215 #[.val (.ref x0), .val (.ref x1), .val .null, .val (.long x3), .second, .val .null, .val (.int (1 : Int32)), .val (.long (x3 * ((1 : Int32).toInt64))), .second, .val (.int (0 : Int32)), .unset] [(.long (KB 0)), (.long (KB 0)), (.ref a87), (.ref a87), (.ref x0)]))
    obtain ⟨w104, T104, L104, q104, Y104, st104⟩ := own_spec X87 hx hZ e87 rfl hown (own_at hw 147 rfl) (own_at hw 148 rfl) (own_at hw 146 rfl) (own_at hw 149 rfl) (by decide) (own_m22 l Z a0 hw [] a87 (KB 0) (KB 0) n0 h87 A87 ga87 f99 f100 (own_cmp0 _) ) (by decide) (W := 2) (by decide) (by decide) (by decide) (g := (mkF m 215 #[.val (.ref x0), .val (.ref x1), .val .null, .val (.long x3), .second, .val .null, .val (.int (1 : Int32)), .val (.long (x3 * ((1 : Int32).toInt64))), .second, .val (.int (0 : Int32)), .unset] [(.long (KB 0)), (.long (KB 0)), (.ref a87), (.ref a87), (.ref x0)])) rfl (by rw [hml]; rfl) (a := a87) (argsL := [(.long (KB 0)), (.long (KB 0))]) (rest := [(.ref a87), (.ref x0)]) (lenOf pd_22 rfl) rfl (by show 2 * 0 + _ ≤ _; exact Nat.le_of_eq rfl) (hb hby d21_215)
    obtain ⟨rfl, N104, K104, E104, c104_0, c104_1⟩ := q104
    have f105 := f90.keep K104
    have f106 := f91.keep K104 (own_nin ne88)
    have f107 := f92.keep K104 (own_nin ne88)
    have f108 := f93.keep K104 (own_nin ne88)
    have f109 := f94.keep K104 (own_nin ne88)
    have f110 := f95.keep K104 (own_nin ne88)
    have f111 := f96.keep K104 (own_nin ne88)
    have f112 := f97.keep K104 (own_nin ne88)
    have f113 := f98.keep K104 (own_nin ne89)
    have N117 := Fr.app N85 N104
    have Z118 : n0 ≤ T104.heap.size := Nat.le_trans Z87 K104.1
    have K119 := K87.trans K104 (own_kt (Or.inr Kh87))
    refine own_Goes.step st104 ?_
    show own_Goes _ _ _ _ _ _ _ (T104.setTop (mkF m 218 #[.val (.ref x0), .val (.ref x1), .val .null, .val (.long x3), .second, .val .null, .val (.int (1 : Int32)), .val (.long (x3 * ((1 : Int32).toInt64))), .second, .val (.int (0 : Int32)), .unset] [(.ref a87), (.ref x0)]))
    obtain ⟨w120, T120, L120, q120, Y120, st120⟩ := own_stat Y104 hx hZ rfl hown (own_at hw 162 rfl) (own_at hw 163 rfl) (own_at hw 164 rfl) (own_at hw 165 rfl) (by decide) (own_m25 l Z a0 hw [] a87 n0 T104.heap Z118) (by decide) (W := 1) (by decide) (by decide) (by decide) (g := (mkF m 218 #[.val (.ref x0), .val (.ref x1), .val .null, .val (.long x3), .second, .val .null, .val (.int (1 : Int32)), .val (.long (x3 * ((1 : Int32).toInt64))), .second, .val (.int (0 : Int32)), .unset] [(.ref a87), (.ref x0)])) rfl (by rw [hml]; rfl) (argsL := [(.ref a87)]) (rest := [(.ref x0)]) (lenOf pd_25 rfl) rfl (by show 2 * 0 + _ ≤ _; exact Nat.le_of_eq rfl) (hb hby d21_218)
    obtain ⟨o120, rfl, N120, K120⟩ := q120
    have Nn120 := Fr.app N117 N120
    have Kn120 := K119.trans K120 (fun x hx => by cases hx)
    have Zn120 : n0 ≤ T120.heap.size := Nat.le_trans Z118 K120.1
    have f121 := f105.keep K120
    have f122 := f106.keep K120 (fun q => by cases q)
    have f123 := f107.keep K120 (fun q => by cases q)
    have f124 := f108.keep K120 (fun q => by cases q)
    have f125 := f109.keep K120 (fun q => by cases q)
    have f126 := f110.keep K120 (fun q => by cases q)
    have f127 := f111.keep K120 (fun q => by cases q)
    have f128 := f112.keep K120 (fun q => by cases q)
    have f129 := f113.keep K120 (fun q => by cases q)
    have f130 := E104.keep K120
    have f131 := c104_0.keep K120 (fun q => by cases q)
    have f132 := c104_1.keep K120 (fun q => by cases q)
    refine own_Goes.step st120 ?_
    show own_Goes _ _ _ _ _ _ _ (T120.setTop (mkF m 221 #[.val (.ref x0), .val (.ref x1), .val .null, .val (.long x3), .second, .val .null, .val (.int (1 : Int32)), .val (.long (x3 * ((1 : Int32).toInt64))), .second, .val (.int (0 : Int32)), .unset] [(.ref o120), (.ref x0)]))
    obtain ⟨T133, h133, X133, e133, W133, st133⟩ := putF Y120 hx hZ hown (host := "") (Or.inl (own_at hw 179 rfl)) Via.refl rfl (v := (.ref o120)) f128 f121 (Or.inr ⟨(own_at hw 180 rfl), rfl, hnm⟩) (own_at hw 127 rfl) (ty := (.object "java/util/Optional")) (by decide) rfl rfl (g := (mkF m 221 #[.val (.ref x0), .val (.ref x1), .val .null, .val (.long x3), .second, .val .null, .val (.int (1 : Int32)), .val (.long (x3 * ((1 : Int32).toInt64))), .second, .val (.int (0 : Int32)), .unset] [(.ref o120), (.ref x0)])) rfl rfl (hb hby d21_221)
    refine own_Goes.step st133 ?_
    have f134 := f121.wr W133
    have f135 := f122.other W133 (Or.inr (slot_ne (Or.inr (own_at hw 133 rfl)) (Or.inr (own_at hw 180 rfl)) (by decide) (t := (.array .long)) (t' := (.object "java/util/Optional")) (by decide) (by decide)))
    have f136 := f123.other W133 (Or.inr (slot_ne (Or.inr (own_at hw 135 rfl)) (Or.inr (own_at hw 180 rfl)) (by decide) (t := (.array .long)) (t' := (.object "java/util/Optional")) (by decide) (by decide)))
    have f137 := f124.other W133 (Or.inr (slot_ne (Or.inr (own_at hw 137 rfl)) (Or.inr (own_at hw 180 rfl)) (by decide) (t := .long) (t' := (.object "java/util/Optional")) (by decide) (by decide)))
    have f138 := f125.other W133 (Or.inr (slot_ne (Or.inr (own_at hw 139 rfl)) (Or.inr (own_at hw 180 rfl)) (by decide) (t := (.array .boolean)) (t' := (.object "java/util/Optional")) (by decide) (by decide)))
    have f139 := f126.other W133 (Or.inr (slot_ne (Or.inr (own_at hw 141 rfl)) (Or.inr (own_at hw 180 rfl)) (by decide) (t := .long) (t' := (.object "java/util/Optional")) (by decide) (by decide)))
    have f140 := f127.other W133 (Or.inr (slot_ne (Or.inr (own_at hw 143 rfl)) (Or.inr (own_at hw 180 rfl)) (by decide) (t := .int) (t' := (.object "java/util/Optional")) (by decide) (by decide)))
    have f141 := f128.same W133
    have f142 := f129.other W133 (Ne.symm s1)
    have f143 := f130.wr W133
    have f144 := f131.other W133 (Or.inl (Ne.symm ne88))
    have f145 := f132.other W133 (Or.inl (Ne.symm ne88))
    have K146 := Kn120.wr W133 (Or.inl (List.mem_of_getElem? (i := 0) rfl))
    have N147 := Fr.snoc X133 Nn120 g0
    have Z148 : n0 ≤ h133.size := Nat.le_trans Zn120 (Keep.of_wr W133).1
    show own_Goes _ _ _ _ _ _ _ (T133.setTop (mkF m 224 #[.val (.ref x0), .val (.ref x1), .val .null, .val (.long x3), .second, .val .null, .val (.int (1 : Int32)), .val (.long (x3 * ((1 : Int32).toInt64))), .second, .val (.int (0 : Int32)), .unset] []))
    refine own_endV X133 hx Bd.notSynchronized Bd.returns (hb hby d21_224) ?_ (by decide) (by decide)
    show own_F21z Z x0 x1 x3 KB n0 h0 _ T133.heap _
    rw [e133]
    exact ⟨rfl, N147, K146, f134, f135, f139, f142⟩
  obtain ⟨t2, o2, q1, q2, q3, q4⟩ := hgo
  exact ⟨t2, o2, castTop (ef_21z m x0 x1 x3) q1, q2, q3, q4⟩
theorem ef_21o (m : MethodId) (x0 : Addr) (x1 : Addr) (x3 : Int64) (x4 : Addr) : entryFrame m #[(.ref x0), (.ref x1), .null, (.long x3), (.ref x4), (.int (1 : Int32))] 11 = mkF m 0 #[.val (.ref x0), .val (.ref x1), .val .null, .val (.long x3), .second, .val (.ref x4), .val (.int (1 : Int32)), .unset, .unset, .unset, .unset] [] := by first | (simp [entryFrame, mkF, argsToLocals, Value.category]; done) | rfl
def own_F21o (Z : State) (x0 : Addr) (x1 : Addr) (x3 : Int64) (x4 : Addr) (KB : Nat → Int64) (DD : Nat → Int32) (n0 : Nat) (h0 : Heap) (v : Option Value) (h : Heap) (L : List Loc) : Prop := v = none ∧ Fr n0 L ∧ Keep h0 h [x0] ∧ Exa Z h x0 "com/example/strati/strati/sim/RunEntries" ∧ Fld Z h x0 "com/example/strati/strati/sim/RunEntries" "keys" "[J" (.ref x1) ∧ Fld Z h x0 "com/example/strati/strati/sim/RunEntries" "size" "J" (.long (x3 * ((1 : Int32).toInt64))) ∧ own_Ar Z h x1 .long 1 (fun uu => .long (KB uu))
set_option maxRecDepth 65536 in
set_option maxHeartbeats 40000000 in
theorem own_m21o (l : Launch) (Z : State) (a0 : Array Value) (hw : ∀ d ∈ tables_1, d.before a0 Z = true) (ws : List Jvm.Cond) (x0 : Addr) (x1 : Addr) (x3 : Int64) (x4 : Addr) (KB : Nat → Int64) (DD : Nat → Int32) (n0 : Nat) (h0 : Heap)  (E0 : Exa Z h0 x0 "com/example/strati/strati/sim/RunEntries") (g0 : n0 ≤ x0) (P0 : Fld Z h0 x0 "com/example/strati/strati/sim/RunEntries" "keys" "[J" .null) (P1 : Fld Z h0 x0 "com/example/strati/strati/sim/RunEntries" "sizes" "[J" .null) (P2 : Fld Z h0 x0 "com/example/strati/strati/sim/RunEntries" "entrySize" "J" (.long (0 : Int64))) (P3 : Fld Z h0 x0 "com/example/strati/strati/sim/RunEntries" "deletes" "[Z" .null) (P4 : Fld Z h0 x0 "com/example/strati/strati/sim/RunEntries" "size" "J" (.long (0 : Int64))) (P5 : Fld Z h0 x0 "com/example/strati/strati/sim/RunEntries" "markers" "I" (.int (0 : Int32))) (P6 : Fld Z h0 x0 "com/example/strati/strati/sim/RunEntries" "keyRange" "Ljava/util/Optional;" .null) (RK : own_Ar Z h0 x1 .long 1 (fun uu => .long (KB uu))) (s1 : x0 ≠ x1) (RD : own_Ar Z h0 x4 .boolean 1 (fun uu => .int (DD uu))) (s2 : x0 ≠ x4) :
    MetFree l (⟨"com/example/strati/strati/sim/RunEntries", "<init>", "([J[JJ[ZI)V"⟩ : MethodName) (head1 (Jvm.Cond.code (⟨"com/example/strati/strati/sim/RunEntries", "<init>", "([J[JJ[ZI)V"⟩ : MethodName) prog_49_method_1_code 11 none :: ws) ({ frames := 3, cells := 2, slots := 3, locals := 48 } : Room)) (fun a U => a = #[(.ref x0), (.ref x1), .null, (.long x3), (.ref x4), (.int (1 : Int32))] ∧ Z.Warmed39 U.vm ∧ U.heap = h0) (fun _ _ _ _ _ => True) (fun _ U o U' => ∃ v L, o = .returned v ∧ own_F21o Z x0 x1 x3 x4 KB DD n0 h0 v U'.heap L ∧ FrameEnd U o U' L ({ frames := 3, cells := 2, slots := 3, locals := 48 } : Room).cells ({ frames := 3, cells := 2, slots := 3, locals := 48 } : Room).slots) := by
  refine MetFree.of_bodySF (plainFor_of_name pn_21) hisR ?_
  intro p e s m args below meth c s₁ Bd hml0 hP hK
  obtain ⟨rfl, hZ, hh⟩ := hP
  have hx := Bd.exec
  have hby := Bd.bytes
  have hml : c.maxLocals = 11 := hml0
  have hown : s.vm.findClass "com/example/strati/strati/sim/RunEntries" = some m.cls := findClass_of_methodNamed Bd.named
  have hnm := (name_of_methodNamed Bd.named Bd.method).1
  have X0 : Stand p l e ({ frames := 3, cells := 2, slots := 3, locals := 48 } : Room) s m #[(.ref x0), (.ref x1), .null, (.long x3), (.ref x4), (.int (1 : Int32))] below meth c s₁ [] 0 0 := Stand.of_body Bd
  have e0 : s₁.heap = h0 := by rw [← hh, Bd.state]; rfl
  have Z0 : n0 ≤ h0.size := Nat.le_trans g0 (Nat.le_of_lt E0.lt)
  have N0 := Fr.nil n0
  have K0 : Keep h0 h0 [x0] := Keep.refl h0 [x0]
  have hgo : own_Goes p e below s (own_F21o Z x0 x1 x3 x4 KB DD n0 h0) 2 3 (s₁.setTop (mkF m 0 #[.val (.ref x0), .val (.ref x1), .val .null, .val (.long x3), .second, .val (.ref x4), .val (.int (1 : Int32)), .unset, .unset, .unset, .unset] [])) := by
    refine own_Goes.step (fun tq kq => XS.aloadN X0.here hx rfl (hb hby d21_0) rfl rfl kq) ?_
    show own_Goes _ _ _ _ _ _ _ (s₁.setTop (mkF m 1 #[.val (.ref x0), .val (.ref x1), .val .null, .val (.long x3), .second, .val (.ref x4), .val (.int (1 : Int32)), .unset, .unset, .unset, .unset] [(.ref x0)]))
    obtain ⟨T1, X1, e1, st1⟩ := initO X0 hx hZ hown (own_at hw 131 rfl) (own_at hw 7 rfl) (own_at hw 8 rfl) e0 (g := (mkF m 1 #[.val (.ref x0), .val (.ref x1), .val .null, .val (.long x3), .second, .val (.ref x4), .val (.int (1 : Int32)), .unset, .unset, .unset, .unset] [(.ref x0)])) rfl (by rw [hml]; rfl) rfl (hb hby d21_1) (by decide) (W := 0) (by show 2 * 0 + _ ≤ _; exact Nat.le_of_eq rfl) (by decide)
    refine own_Goes.step st1 ?_
    show own_Goes _ _ _ _ _ _ _ (T1.setTop (mkF m 4 #[.val (.ref x0), .val (.ref x1), .val .null, .val (.long x3), .second, .val (.ref x4), .val (.int (1 : Int32)), .unset, .unset, .unset, .unset] []))
    refine own_Goes.step (fun tq kq => XS.aloadN X1.here hx rfl (hb hby d21_4) rfl rfl kq) ?_
    show own_Goes _ _ _ _ _ _ _ (T1.setTop (mkF m 5 #[.val (.ref x0), .val (.ref x1), .val .null, .val (.long x3), .second, .val (.ref x4), .val (.int (1 : Int32)), .unset, .unset, .unset, .unset] [(.ref x0)]))
    refine own_Goes.step (fun tq kq => XS.iload X1.here hx rfl (hb hby d21_5) rfl kq) ?_
    show own_Goes _ _ _ _ _ _ _ (T1.setTop (mkF m 7 #[.val (.ref x0), .val (.ref x1), .val .null, .val (.long x3), .second, .val (.ref x4), .val (.int (1 : Int32)), .unset, .unset, .unset, .unset] [(.int (1 : Int32)), (.ref x0)]))
    refine own_Goes.step (fun tq kq => XS.aloadN X1.here hx rfl (hb hby d21_7) rfl rfl kq) ?_
    show own_Goes _ _ _ _ _ _ _ (T1.setTop (mkF m 8 #[.val (.ref x0), .val (.ref x1), .val .null, .val (.long x3), .second, .val (.ref x4), .val (.int (1 : Int32)), .unset, .unset, .unset, .unset] [(.ref x1), (.int (1 : Int32)), (.ref x0)]))
    refine own_Goes.step (own_alen X1 hx hZ e1 RK (z := (1 : Int32)) (by decide) (g := (mkF m 8 #[.val (.ref x0), .val (.ref x1), .val .null, .val (.long x3), .second, .val (.ref x4), .val (.int (1 : Int32)), .unset, .unset, .unset, .unset] [(.ref x1), (.int (1 : Int32)), (.ref x0)])) rfl rfl (hb hby d21_8)) ?_
    show own_Goes _ _ _ _ _ _ _ (T1.setTop (mkF m 9 #[.val (.ref x0), .val (.ref x1), .val .null, .val (.long x3), .second, .val (.ref x4), .val (.int (1 : Int32)), .unset, .unset, .unset, .unset] [(.int (1 : Int32)), (.int (1 : Int32)), (.ref x0)]))
    refine own_Goes.step (fun tq kq => XS.icmpNo X1.here hx rfl (hb hby d21_9) rfl (XT.ii_ne_f (by decide)) kq) ?_
    show own_Goes _ _ _ _ _ _ _ (T1.setTop (mkF m 12 #[.val (.ref x0), .val (.ref x1), .val .null, .val (.long x3), .second, .val (.ref x4), .val (.int (1 : Int32)), .unset, .unset, .unset, .unset] [(.ref x0)]))
    refine own_Goes.step (fun tq kq => XS.aloadN X1.here hx rfl (hb hby d21_12) rfl rfl kq) ?_
    show own_Goes _ _ _ _ _ _ _ (T1.setTop (mkF m 13 #[.val (.ref x0), .val (.ref x1), .val .null, .val (.long x3), .second, .val (.ref x4), .val (.int (1 : Int32)), .unset, .unset, .unset, .unset] [(.ref x1), (.ref x0)]))
    refine own_Goes.step (fun tq kq => XS.goto X1.here hx rfl (pc0 := 13) (pc' := 22) rfl (hb hby d21_13) (by decide) (by decide) kq) ?_
    show own_Goes _ _ _ _ _ _ _ (T1.setTop (mkF m 22 #[.val (.ref x0), .val (.ref x1), .val .null, .val (.long x3), .second, .val (.ref x4), .val (.int (1 : Int32)), .unset, .unset, .unset, .unset] [(.ref x1), (.ref x0)]))
    obtain ⟨T3, h3, X3, e3, W3, st3⟩ := putF X1 hx hZ hown (host := "") (Or.inl (own_at hw 132 rfl)) Via.refl e1 (v := (.ref x1)) P0 E0 (Or.inr ⟨(own_at hw 133 rfl), rfl, hnm⟩) (own_at hw 127 rfl) (ty := (.array .long)) (by decide) rfl rfl (g := (mkF m 22 #[.val (.ref x0), .val (.ref x1), .val .null, .val (.long x3), .second, .val (.ref x4), .val (.int (1 : Int32)), .unset, .unset, .unset, .unset] [(.ref x1), (.ref x0)])) rfl rfl (hb hby d21_22)
    refine own_Goes.step st3 ?_
    have f4 := E0.wr W3
    have f5 := P0.same W3
    have f6 := P1.other W3 (Or.inr (slot_ne (Or.inr (own_at hw 135 rfl)) (Or.inr (own_at hw 133 rfl)) (by decide) (t := (.array .long)) (t' := (.array .long)) (by decide) (by decide)))
    have f7 := P2.other W3 (Or.inr (slot_ne (Or.inr (own_at hw 137 rfl)) (Or.inr (own_at hw 133 rfl)) (by decide) (t := .long) (t' := (.array .long)) (by decide) (by decide)))
    have f8 := P3.other W3 (Or.inr (slot_ne (Or.inr (own_at hw 139 rfl)) (Or.inr (own_at hw 133 rfl)) (by decide) (t := (.array .boolean)) (t' := (.array .long)) (by decide) (by decide)))
    have f9 := P4.other W3 (Or.inr (slot_ne (Or.inr (own_at hw 141 rfl)) (Or.inr (own_at hw 133 rfl)) (by decide) (t := .long) (t' := (.array .long)) (by decide) (by decide)))
    have f10 := P5.other W3 (Or.inr (slot_ne (Or.inr (own_at hw 143 rfl)) (Or.inr (own_at hw 133 rfl)) (by decide) (t := .int) (t' := (.array .long)) (by decide) (by decide)))
    have f11 := P6.other W3 (Or.inr (slot_ne (Or.inr (own_at hw 180 rfl)) (Or.inr (own_at hw 133 rfl)) (by decide) (t := (.object "java/util/Optional")) (t' := (.array .long)) (by decide) (by decide)))
    have f12 := RK.other W3 (Ne.symm s1)
    have f13 := RD.other W3 (Ne.symm s2)
    have K14 := K0.wr W3 (Or.inl (List.mem_of_getElem? (i := 0) rfl))
    have N15 := Fr.snoc X3 N0 g0
    have Z16 : n0 ≤ h3.size := Nat.le_trans Z0 (Keep.of_wr W3).1
    show own_Goes _ _ _ _ _ _ _ (T3.setTop (mkF m 25 #[.val (.ref x0), .val (.ref x1), .val .null, .val (.long x3), .second, .val (.ref x4), .val (.int (1 : Int32)), .unset, .unset, .unset, .unset] []))
    refine own_Goes.step (fun tq kq => XS.aloadN X3.here hx rfl (hb hby d21_25) rfl rfl kq) ?_
    show own_Goes _ _ _ _ _ _ _ (T3.setTop (mkF m 26 #[.val (.ref x0), .val (.ref x1), .val .null, .val (.long x3), .second, .val (.ref x4), .val (.int (1 : Int32)), .unset, .unset, .unset, .unset] [(.ref x0)]))
    refine own_Goes.step (fun tq kq => XS.aloadN X3.here hx rfl (hb hby d21_26) rfl rfl kq) ?_
    show own_Goes _ _ _ _ _ _ _ (T3.setTop (mkF m 27 #[.val (.ref x0), .val (.ref x1), .val .null, .val (.long x3), .second, .val (.ref x4), .val (.int (1 : Int32)), .unset, .unset, .unset, .unset] [.null, (.ref x0)]))
    refine own_Goes.step (fun tq kq => XS.ifnullYes X3.here hx rfl (pc0 := 27) (pc' := 37) rfl (hb hby d21_27) rfl (by decide) (by decide) kq) ?_
    show own_Goes _ _ _ _ _ _ _ (T3.setTop (mkF m 37 #[.val (.ref x0), .val (.ref x1), .val .null, .val (.long x3), .second, .val (.ref x4), .val (.int (1 : Int32)), .unset, .unset, .unset, .unset] [(.ref x0)]))
    refine own_Goes.step (fun tq kq => XS.aloadN X3.here hx rfl (hb hby d21_37) rfl rfl kq) ?_
    show own_Goes _ _ _ _ _ _ _ (T3.setTop (mkF m 38 #[.val (.ref x0), .val (.ref x1), .val .null, .val (.long x3), .second, .val (.ref x4), .val (.int (1 : Int32)), .unset, .unset, .unset, .unset] [.null, (.ref x0)]))
    refine own_Goes.step (fun tq kq => XS.goto X3.here hx rfl (pc0 := 38) (pc' := 47) rfl (hb hby d21_38) (by decide) (by decide) kq) ?_
    show own_Goes _ _ _ _ _ _ _ (T3.setTop (mkF m 47 #[.val (.ref x0), .val (.ref x1), .val .null, .val (.long x3), .second, .val (.ref x4), .val (.int (1 : Int32)), .unset, .unset, .unset, .unset] [.null, (.ref x0)]))
    obtain ⟨T18, h18, X18, e18, W18, st18⟩ := putF X3 hx hZ hown (host := "") (Or.inl (own_at hw 134 rfl)) Via.refl e3 (v := .null) f6 f4 (Or.inr ⟨(own_at hw 135 rfl), rfl, hnm⟩) (own_at hw 127 rfl) (ty := (.array .long)) (by decide) rfl rfl (g := (mkF m 47 #[.val (.ref x0), .val (.ref x1), .val .null, .val (.long x3), .second, .val (.ref x4), .val (.int (1 : Int32)), .unset, .unset, .unset, .unset] [.null, (.ref x0)])) rfl rfl (hb hby d21_47)
    refine own_Goes.step st18 ?_
    have f19 := f4.wr W18
    have f20 := f5.other W18 (Or.inr (slot_ne (Or.inr (own_at hw 133 rfl)) (Or.inr (own_at hw 135 rfl)) (by decide) (t := (.array .long)) (t' := (.array .long)) (by decide) (by decide)))
    have f21 := f6.same W18
    have f22 := f7.other W18 (Or.inr (slot_ne (Or.inr (own_at hw 137 rfl)) (Or.inr (own_at hw 135 rfl)) (by decide) (t := .long) (t' := (.array .long)) (by decide) (by decide)))
    have f23 := f8.other W18 (Or.inr (slot_ne (Or.inr (own_at hw 139 rfl)) (Or.inr (own_at hw 135 rfl)) (by decide) (t := (.array .boolean)) (t' := (.array .long)) (by decide) (by decide)))
    have f24 := f9.other W18 (Or.inr (slot_ne (Or.inr (own_at hw 141 rfl)) (Or.inr (own_at hw 135 rfl)) (by decide) (t := .long) (t' := (.array .long)) (by decide) (by decide)))
    have f25 := f10.other W18 (Or.inr (slot_ne (Or.inr (own_at hw 143 rfl)) (Or.inr (own_at hw 135 rfl)) (by decide) (t := .int) (t' := (.array .long)) (by decide) (by decide)))
    have f26 := f11.other W18 (Or.inr (slot_ne (Or.inr (own_at hw 180 rfl)) (Or.inr (own_at hw 135 rfl)) (by decide) (t := (.object "java/util/Optional")) (t' := (.array .long)) (by decide) (by decide)))
    have f27 := f12.other W18 (Ne.symm s1)
    have f28 := f13.other W18 (Ne.symm s2)
    have K29 := K14.wr W18 (Or.inl (List.mem_of_getElem? (i := 0) rfl))
    have N30 := Fr.snoc X18 N15 g0
    have Z31 : n0 ≤ h18.size := Nat.le_trans Z16 (Keep.of_wr W18).1
    show own_Goes _ _ _ _ _ _ _ (T18.setTop (mkF m 50 #[.val (.ref x0), .val (.ref x1), .val .null, .val (.long x3), .second, .val (.ref x4), .val (.int (1 : Int32)), .unset, .unset, .unset, .unset] []))
    refine own_Goes.step (fun tq kq => XS.aloadN X18.here hx rfl (hb hby d21_50) rfl rfl kq) ?_
    show own_Goes _ _ _ _ _ _ _ (T18.setTop (mkF m 51 #[.val (.ref x0), .val (.ref x1), .val .null, .val (.long x3), .second, .val (.ref x4), .val (.int (1 : Int32)), .unset, .unset, .unset, .unset] [(.ref x0)]))
    refine own_Goes.step (fun tq kq => XS.aloadN X18.here hx rfl (hb hby d21_51) rfl rfl kq) ?_
    show own_Goes _ _ _ _ _ _ _ (T18.setTop (mkF m 52 #[.val (.ref x0), .val (.ref x1), .val .null, .val (.long x3), .second, .val (.ref x4), .val (.int (1 : Int32)), .unset, .unset, .unset, .unset] [.null, (.ref x0)]))
    refine own_Goes.step (fun tq kq => XT.ifnonnullNo X18.here hx rfl (hb hby d21_52) rfl kq) ?_
    show own_Goes _ _ _ _ _ _ _ (T18.setTop (mkF m 55 #[.val (.ref x0), .val (.ref x1), .val .null, .val (.long x3), .second, .val (.ref x4), .val (.int (1 : Int32)), .unset, .unset, .unset, .unset] [(.ref x0)]))
    refine own_Goes.step (fun tq kq => XT.lloadN X18.here hx rfl (hb hby d21_55) rfl kq) ?_
    show own_Goes _ _ _ _ _ _ _ (T18.setTop (mkF m 56 #[.val (.ref x0), .val (.ref x1), .val .null, .val (.long x3), .second, .val (.ref x4), .val (.int (1 : Int32)), .unset, .unset, .unset, .unset] [(.long x3), (.ref x0)]))
    refine own_Goes.step (fun tq kq => XS.goto X18.here hx rfl (pc0 := 56) (pc' := 60) rfl (hb hby d21_56) (by decide) (by decide) kq) ?_
    show own_Goes _ _ _ _ _ _ _ (T18.setTop (mkF m 60 #[.val (.ref x0), .val (.ref x1), .val .null, .val (.long x3), .second, .val (.ref x4), .val (.int (1 : Int32)), .unset, .unset, .unset, .unset] [(.long x3), (.ref x0)]))
    obtain ⟨T33, h33, X33, e33, W33, st33⟩ := putF X18 hx hZ hown (host := "") (Or.inl (own_at hw 136 rfl)) Via.refl e18 (v := (.long x3)) f22 f19 (Or.inr ⟨(own_at hw 137 rfl), rfl, hnm⟩) (own_at hw 127 rfl) (ty := .long) (by decide) rfl rfl (g := (mkF m 60 #[.val (.ref x0), .val (.ref x1), .val .null, .val (.long x3), .second, .val (.ref x4), .val (.int (1 : Int32)), .unset, .unset, .unset, .unset] [(.long x3), (.ref x0)])) rfl rfl (hb hby d21_60)
    refine own_Goes.step st33 ?_
    have f34 := f19.wr W33
    have f35 := f20.other W33 (Or.inr (slot_ne (Or.inr (own_at hw 133 rfl)) (Or.inr (own_at hw 137 rfl)) (by decide) (t := (.array .long)) (t' := .long) (by decide) (by decide)))
    have f36 := f21.other W33 (Or.inr (slot_ne (Or.inr (own_at hw 135 rfl)) (Or.inr (own_at hw 137 rfl)) (by decide) (t := (.array .long)) (t' := .long) (by decide) (by decide)))
    have f37 := f22.same W33
    have f38 := f23.other W33 (Or.inr (slot_ne (Or.inr (own_at hw 139 rfl)) (Or.inr (own_at hw 137 rfl)) (by decide) (t := (.array .boolean)) (t' := .long) (by decide) (by decide)))
    have f39 := f24.other W33 (Or.inr (slot_ne (Or.inr (own_at hw 141 rfl)) (Or.inr (own_at hw 137 rfl)) (by decide) (t := .long) (t' := .long) (by decide) (by decide)))
    have f40 := f25.other W33 (Or.inr (slot_ne (Or.inr (own_at hw 143 rfl)) (Or.inr (own_at hw 137 rfl)) (by decide) (t := .int) (t' := .long) (by decide) (by decide)))
    have f41 := f26.other W33 (Or.inr (slot_ne (Or.inr (own_at hw 180 rfl)) (Or.inr (own_at hw 137 rfl)) (by decide) (t := (.object "java/util/Optional")) (t' := .long) (by decide) (by decide)))
    have f42 := f27.other W33 (Ne.symm s1)
    have f43 := f28.other W33 (Ne.symm s2)
    have K44 := K29.wr W33 (Or.inl (List.mem_of_getElem? (i := 0) rfl))
    have N45 := Fr.snoc X33 N30 g0
    have Z46 : n0 ≤ h33.size := Nat.le_trans Z31 (Keep.of_wr W33).1
    show own_Goes _ _ _ _ _ _ _ (T33.setTop (mkF m 63 #[.val (.ref x0), .val (.ref x1), .val .null, .val (.long x3), .second, .val (.ref x4), .val (.int (1 : Int32)), .unset, .unset, .unset, .unset] []))
    refine own_Goes.step (fun tq kq => XS.aloadN X33.here hx rfl (hb hby d21_63) rfl rfl kq) ?_
    show own_Goes _ _ _ _ _ _ _ (T33.setTop (mkF m 64 #[.val (.ref x0), .val (.ref x1), .val .null, .val (.long x3), .second, .val (.ref x4), .val (.int (1 : Int32)), .unset, .unset, .unset, .unset] [(.ref x0)]))
    refine own_Goes.step (fun tq kq => XS.aload X33.here hx rfl (hb hby d21_64) rfl rfl kq) ?_
    show own_Goes _ _ _ _ _ _ _ (T33.setTop (mkF m 66 #[.val (.ref x0), .val (.ref x1), .val .null, .val (.long x3), .second, .val (.ref x4), .val (.int (1 : Int32)), .unset, .unset, .unset, .unset] [(.ref x4), (.ref x0)]))
    refine own_Goes.step (fun tq kq => XS.ifnullNo X33.here hx rfl (hb hby d21_66) rfl kq) ?_
    show own_Goes _ _ _ _ _ _ _ (T33.setTop (mkF m 69 #[.val (.ref x0), .val (.ref x1), .val .null, .val (.long x3), .second, .val (.ref x4), .val (.int (1 : Int32)), .unset, .unset, .unset, .unset] [(.ref x0)]))
    refine own_Goes.step (fun tq kq => XS.iload X33.here hx rfl (hb hby d21_69) rfl kq) ?_
    show own_Goes _ _ _ _ _ _ _ (T33.setTop (mkF m 71 #[.val (.ref x0), .val (.ref x1), .val .null, .val (.long x3), .second, .val (.ref x4), .val (.int (1 : Int32)), .unset, .unset, .unset, .unset] [(.int (1 : Int32)), (.ref x0)]))
    refine own_Goes.step (fun tq kq => XS.aload X33.here hx rfl (hb hby d21_71) rfl rfl kq) ?_
    show own_Goes _ _ _ _ _ _ _ (T33.setTop (mkF m 73 #[.val (.ref x0), .val (.ref x1), .val .null, .val (.long x3), .second, .val (.ref x4), .val (.int (1 : Int32)), .unset, .unset, .unset, .unset] [(.ref x4), (.int (1 : Int32)), (.ref x0)]))
    refine own_Goes.step (own_alen X33 hx hZ e33 f43 (z := (1 : Int32)) (by decide) (g := (mkF m 73 #[.val (.ref x0), .val (.ref x1), .val .null, .val (.long x3), .second, .val (.ref x4), .val (.int (1 : Int32)), .unset, .unset, .unset, .unset] [(.ref x4), (.int (1 : Int32)), (.ref x0)])) rfl rfl (hb hby d21_73)) ?_
    show own_Goes _ _ _ _ _ _ _ (T33.setTop (mkF m 74 #[.val (.ref x0), .val (.ref x1), .val .null, .val (.long x3), .second, .val (.ref x4), .val (.int (1 : Int32)), .unset, .unset, .unset, .unset] [(.int (1 : Int32)), (.int (1 : Int32)), (.ref x0)]))
    refine own_Goes.step (fun tq kq => XS.icmpNo X33.here hx rfl (hb hby d21_74) rfl (XT.ii_ne_f (by decide)) kq) ?_
    show own_Goes _ _ _ _ _ _ _ (T33.setTop (mkF m 77 #[.val (.ref x0), .val (.ref x1), .val .null, .val (.long x3), .second, .val (.ref x4), .val (.int (1 : Int32)), .unset, .unset, .unset, .unset] [(.ref x0)]))
    refine own_Goes.step (fun tq kq => XS.aload X33.here hx rfl (hb hby d21_77) rfl rfl kq) ?_
    show own_Goes _ _ _ _ _ _ _ (T33.setTop (mkF m 79 #[.val (.ref x0), .val (.ref x1), .val .null, .val (.long x3), .second, .val (.ref x4), .val (.int (1 : Int32)), .unset, .unset, .unset, .unset] [(.ref x4), (.ref x0)]))
    refine own_Goes.step (fun tq kq => XS.goto X33.here hx rfl (pc0 := 79) (pc' := 89) rfl (hb hby d21_79) (by decide) (by decide) kq) ?_
    show own_Goes _ _ _ _ _ _ _ (T33.setTop (mkF m 89 #[.val (.ref x0), .val (.ref x1), .val .null, .val (.long x3), .second, .val (.ref x4), .val (.int (1 : Int32)), .unset, .unset, .unset, .unset] [(.ref x4), (.ref x0)]))
    obtain ⟨T49, h49, X49, e49, W49, st49⟩ := putF X33 hx hZ hown (host := "") (Or.inl (own_at hw 138 rfl)) Via.refl e33 (v := (.ref x4)) f38 f34 (Or.inr ⟨(own_at hw 139 rfl), rfl, hnm⟩) (own_at hw 127 rfl) (ty := (.array .boolean)) (by decide) rfl rfl (g := (mkF m 89 #[.val (.ref x0), .val (.ref x1), .val .null, .val (.long x3), .second, .val (.ref x4), .val (.int (1 : Int32)), .unset, .unset, .unset, .unset] [(.ref x4), (.ref x0)])) rfl rfl (hb hby d21_89)
    refine own_Goes.step st49 ?_
    have f50 := f34.wr W49
    have f51 := f35.other W49 (Or.inr (slot_ne (Or.inr (own_at hw 133 rfl)) (Or.inr (own_at hw 139 rfl)) (by decide) (t := (.array .long)) (t' := (.array .boolean)) (by decide) (by decide)))
    have f52 := f36.other W49 (Or.inr (slot_ne (Or.inr (own_at hw 135 rfl)) (Or.inr (own_at hw 139 rfl)) (by decide) (t := (.array .long)) (t' := (.array .boolean)) (by decide) (by decide)))
    have f53 := f37.other W49 (Or.inr (slot_ne (Or.inr (own_at hw 137 rfl)) (Or.inr (own_at hw 139 rfl)) (by decide) (t := .long) (t' := (.array .boolean)) (by decide) (by decide)))
    have f54 := f38.same W49
    have f55 := f39.other W49 (Or.inr (slot_ne (Or.inr (own_at hw 141 rfl)) (Or.inr (own_at hw 139 rfl)) (by decide) (t := .long) (t' := (.array .boolean)) (by decide) (by decide)))
    have f56 := f40.other W49 (Or.inr (slot_ne (Or.inr (own_at hw 143 rfl)) (Or.inr (own_at hw 139 rfl)) (by decide) (t := .int) (t' := (.array .boolean)) (by decide) (by decide)))
    have f57 := f41.other W49 (Or.inr (slot_ne (Or.inr (own_at hw 180 rfl)) (Or.inr (own_at hw 139 rfl)) (by decide) (t := (.object "java/util/Optional")) (t' := (.array .boolean)) (by decide) (by decide)))
    have f58 := f42.other W49 (Ne.symm s1)
    have f59 := f43.other W49 (Ne.symm s2)
    have K60 := K44.wr W49 (Or.inl (List.mem_of_getElem? (i := 0) rfl))
    have N61 := Fr.snoc X49 N45 g0
    have Z62 : n0 ≤ h49.size := Nat.le_trans Z46 (Keep.of_wr W49).1
    show own_Goes _ _ _ _ _ _ _ (T49.setTop (mkF m 92 #[.val (.ref x0), .val (.ref x1), .val .null, .val (.long x3), .second, .val (.ref x4), .val (.int (1 : Int32)), .unset, .unset, .unset, .unset] []))
    refine own_Goes.step (fun tq kq => XS.aloadN X49.here hx rfl (hb hby d21_92) rfl rfl kq) ?_
    show own_Goes _ _ _ _ _ _ _ (T49.setTop (mkF m 93 #[.val (.ref x0), .val (.ref x1), .val .null, .val (.long x3), .second, .val (.ref x4), .val (.int (1 : Int32)), .unset, .unset, .unset, .unset] [.null]))
    refine own_Goes.step (fun tq kq => XT.ifnonnullNo X49.here hx rfl (hb hby d21_93) rfl kq) ?_
    show own_Goes _ _ _ _ _ _ _ (T49.setTop (mkF m 96 #[.val (.ref x0), .val (.ref x1), .val .null, .val (.long x3), .second, .val (.ref x4), .val (.int (1 : Int32)), .unset, .unset, .unset, .unset] []))
    refine own_Goes.step (fun tq kq => XT.lloadN X49.here hx rfl (hb hby d21_96) rfl kq) ?_
    show own_Goes _ _ _ _ _ _ _ (T49.setTop (mkF m 97 #[.val (.ref x0), .val (.ref x1), .val .null, .val (.long x3), .second, .val (.ref x4), .val (.int (1 : Int32)), .unset, .unset, .unset, .unset] [(.long x3)]))
    refine own_Goes.step (fun tq kq => XS.iload X49.here hx rfl (hb hby d21_97) rfl kq) ?_
    show own_Goes _ _ _ _ _ _ _ (T49.setTop (mkF m 99 #[.val (.ref x0), .val (.ref x1), .val .null, .val (.long x3), .second, .val (.ref x4), .val (.int (1 : Int32)), .unset, .unset, .unset, .unset] [(.int (1 : Int32)), (.long x3)]))
    refine own_Goes.step (fun tq kq => XT.i2l X49.here hx rfl (hb hby d21_99) rfl kq) ?_
    show own_Goes _ _ _ _ _ _ _ (T49.setTop (mkF m 100 #[.val (.ref x0), .val (.ref x1), .val .null, .val (.long x3), .second, .val (.ref x4), .val (.int (1 : Int32)), .unset, .unset, .unset, .unset] [(.long ((1 : Int32).toInt64)), (.long x3)]))
    refine own_Goes.step (fun tq kq => XT.lmul X49.here hx rfl (hb hby d21_100) rfl kq) ?_
    show own_Goes _ _ _ _ _ _ _ (T49.setTop (mkF m 101 #[.val (.ref x0), .val (.ref x1), .val .null, .val (.long x3), .second, .val (.ref x4), .val (.int (1 : Int32)), .unset, .unset, .unset, .unset] [(.long (x3 * ((1 : Int32).toInt64)))]))
    refine own_Goes.step (fun tq kq => XS.goto X49.here hx rfl (pc0 := 101) (pc' := 105) rfl (hb hby d21_101) (by decide) (by decide) kq) ?_
    show own_Goes _ _ _ _ _ _ _ (T49.setTop (mkF m 105 #[.val (.ref x0), .val (.ref x1), .val .null, .val (.long x3), .second, .val (.ref x4), .val (.int (1 : Int32)), .unset, .unset, .unset, .unset] [(.long (x3 * ((1 : Int32).toInt64)))]))
    refine own_Goes.step (fun tq kq => XT.lstore X49.here hx rfl (hb hby d21_105) rfl (l' := #[.val (.ref x0), .val (.ref x1), .val .null, .val (.long x3), .second, .val (.ref x4), .val (.int (1 : Int32)), .val (.long (x3 * ((1 : Int32).toInt64))), .second, .unset, .unset]) rfl kq) ?_
    show own_Goes _ _ _ _ _ _ _ (T49.setTop (mkF m 107 #[.val (.ref x0), .val (.ref x1), .val .null, .val (.long x3), .second, .val (.ref x4), .val (.int (1 : Int32)), .val (.long (x3 * ((1 : Int32).toInt64))), .second, .unset, .unset] []))
    refine own_Goes.step (fun tq kq => XS.aloadN X49.here hx rfl (hb hby d21_107) rfl rfl kq) ?_
    show own_Goes _ _ _ _ _ _ _ (T49.setTop (mkF m 108 #[.val (.ref x0), .val (.ref x1), .val .null, .val (.long x3), .second, .val (.ref x4), .val (.int (1 : Int32)), .val (.long (x3 * ((1 : Int32).toInt64))), .second, .unset, .unset] [.null]))
    refine own_Goes.step (fun tq kq => XS.ifnullYes X49.here hx rfl (pc0 := 108) (pc' := 136) rfl (hb hby d21_108) rfl (by decide) (by decide) kq) ?_
    show own_Goes _ _ _ _ _ _ _ (T49.setTop (mkF m 136 #[.val (.ref x0), .val (.ref x1), .val .null, .val (.long x3), .second, .val (.ref x4), .val (.int (1 : Int32)), .val (.long (x3 * ((1 : Int32).toInt64))), .second, .unset, .unset] []))
    refine own_Goes.step (fun tq kq => XT.iconstV X49.here hx rfl (0 : Int32) (hb hby d21_136) (by decide) kq) ?_
    show own_Goes _ _ _ _ _ _ _ (T49.setTop (mkF m 137 #[.val (.ref x0), .val (.ref x1), .val .null, .val (.long x3), .second, .val (.ref x4), .val (.int (1 : Int32)), .val (.long (x3 * ((1 : Int32).toInt64))), .second, .unset, .unset] [(.int (0 : Int32))]))
    refine own_Goes.step (fun tq kq => XS.istore X49.here hx rfl (hb hby d21_137) rfl (l' := #[.val (.ref x0), .val (.ref x1), .val .null, .val (.long x3), .second, .val (.ref x4), .val (.int (1 : Int32)), .val (.long (x3 * ((1 : Int32).toInt64))), .second, .val (.int (0 : Int32)), .unset]) rfl kq) ?_
    show own_Goes _ _ _ _ _ _ _ (T49.setTop (mkF m 139 #[.val (.ref x0), .val (.ref x1), .val .null, .val (.long x3), .second, .val (.ref x4), .val (.int (1 : Int32)), .val (.long (x3 * ((1 : Int32).toInt64))), .second, .val (.int (0 : Int32)), .unset] []))
    refine own_Goes.step (fun tq kq => XS.aload X49.here hx rfl (hb hby d21_139) rfl rfl kq) ?_
    show own_Goes _ _ _ _ _ _ _ (T49.setTop (mkF m 141 #[.val (.ref x0), .val (.ref x1), .val .null, .val (.long x3), .second, .val (.ref x4), .val (.int (1 : Int32)), .val (.long (x3 * ((1 : Int32).toInt64))), .second, .val (.int (0 : Int32)), .unset] [(.ref x4)]))
    refine own_Goes.step (fun tq kq => XS.ifnullNo X49.here hx rfl (hb hby d21_141) rfl kq) ?_
    show own_Goes _ _ _ _ _ _ _ (T49.setTop (mkF m 144 #[.val (.ref x0), .val (.ref x1), .val .null, .val (.long x3), .second, .val (.ref x4), .val (.int (1 : Int32)), .val (.long (x3 * ((1 : Int32).toInt64))), .second, .val (.int (0 : Int32)), .unset] []))
    refine own_Goes.step (fun tq kq => XT.iconstV X49.here hx rfl (0 : Int32) (hb hby d21_144) (by decide) kq) ?_
    show own_Goes _ _ _ _ _ _ _ (T49.setTop (mkF m 145 #[.val (.ref x0), .val (.ref x1), .val .null, .val (.long x3), .second, .val (.ref x4), .val (.int (1 : Int32)), .val (.long (x3 * ((1 : Int32).toInt64))), .second, .val (.int (0 : Int32)), .unset] [(.int (0 : Int32))]))
    refine own_Goes.step (fun tq kq => XS.istore X49.here hx rfl (hb hby d21_145) rfl (l' := #[.val (.ref x0), .val (.ref x1), .val .null, .val (.long x3), .second, .val (.ref x4), .val (.int (1 : Int32)), .val (.long (x3 * ((1 : Int32).toInt64))), .second, .val (.int (0 : Int32)), .val (.int (0 : Int32))]) rfl kq) ?_
    show own_Goes _ _ _ _ _ _ _ (T49.setTop (mkF m 147 #[.val (.ref x0), .val (.ref x1), .val .null, .val (.long x3), .second, .val (.ref x4), .val (.int (1 : Int32)), .val (.long (x3 * ((1 : Int32).toInt64))), .second, .val (.int (0 : Int32)), .val (.int (0 : Int32))] []))
    refine own_Goes.step (fun tq kq => XS.iload X49.here hx rfl (hb hby d21_147) rfl kq) ?_
    show own_Goes _ _ _ _ _ _ _ (T49.setTop (mkF m 149 #[.val (.ref x0), .val (.ref x1), .val .null, .val (.long x3), .second, .val (.ref x4), .val (.int (1 : Int32)), .val (.long (x3 * ((1 : Int32).toInt64))), .second, .val (.int (0 : Int32)), .val (.int (0 : Int32))] [(.int (0 : Int32))]))
    refine own_Goes.step (fun tq kq => XS.iload X49.here hx rfl (hb hby d21_149) rfl kq) ?_
    show own_Goes _ _ _ _ _ _ _ (T49.setTop (mkF m 151 #[.val (.ref x0), .val (.ref x1), .val .null, .val (.long x3), .second, .val (.ref x4), .val (.int (1 : Int32)), .val (.long (x3 * ((1 : Int32).toInt64))), .second, .val (.int (0 : Int32)), .val (.int (0 : Int32))] [(.int (1 : Int32)), (.int (0 : Int32))]))
    refine own_Goes.step (fun tq kq => XS.icmpNo X49.here hx rfl (hb hby d21_151) rfl (XT.ii_ge_f (by decide)) kq) ?_
    show own_Goes _ _ _ _ _ _ _ (T49.setTop (mkF m 154 #[.val (.ref x0), .val (.ref x1), .val .null, .val (.long x3), .second, .val (.ref x4), .val (.int (1 : Int32)), .val (.long (x3 * ((1 : Int32).toInt64))), .second, .val (.int (0 : Int32)), .val (.int (0 : Int32))] []))
    refine own_Goes.step (fun tq kq => XS.iload X49.here hx rfl (hb hby d21_154) rfl kq) ?_
    show own_Goes _ _ _ _ _ _ _ (T49.setTop (mkF m 156 #[.val (.ref x0), .val (.ref x1), .val .null, .val (.long x3), .second, .val (.ref x4), .val (.int (1 : Int32)), .val (.long (x3 * ((1 : Int32).toInt64))), .second, .val (.int (0 : Int32)), .val (.int (0 : Int32))] [(.int (0 : Int32))]))
    refine own_Goes.step (fun tq kq => XS.aload X49.here hx rfl (hb hby d21_156) rfl rfl kq) ?_
    show own_Goes _ _ _ _ _ _ _ (T49.setTop (mkF m 158 #[.val (.ref x0), .val (.ref x1), .val .null, .val (.long x3), .second, .val (.ref x4), .val (.int (1 : Int32)), .val (.long (x3 * ((1 : Int32).toInt64))), .second, .val (.int (0 : Int32)), .val (.int (0 : Int32))] [(.ref x4), (.int (0 : Int32))]))
    refine own_Goes.step (fun tq kq => XS.iload X49.here hx rfl (hb hby d21_158) rfl kq) ?_
    show own_Goes _ _ _ _ _ _ _ (T49.setTop (mkF m 160 #[.val (.ref x0), .val (.ref x1), .val .null, .val (.long x3), .second, .val (.ref x4), .val (.int (1 : Int32)), .val (.long (x3 * ((1 : Int32).toInt64))), .second, .val (.int (0 : Int32)), .val (.int (0 : Int32))] [(.int (0 : Int32)), (.ref x4), (.int (0 : Int32))]))
    refine own_Goes.step (own_zald X49 hx hZ e49 f59 (i := 0) rfl (by decide) (v := (.int (DD 0))) rfl (g := (mkF m 160 #[.val (.ref x0), .val (.ref x1), .val .null, .val (.long x3), .second, .val (.ref x4), .val (.int (1 : Int32)), .val (.long (x3 * ((1 : Int32).toInt64))), .second, .val (.int (0 : Int32)), .val (.int (0 : Int32))] [(.int (0 : Int32)), (.ref x4), (.int (0 : Int32))])) rfl rfl (hb hby d21_160)) ?_
    show own_Goes _ _ _ _ _ _ _ (T49.setTop (mkF m 161 #[.val (.ref x0), .val (.ref x1), .val .null, .val (.long x3), .second, .val (.ref x4), .val (.int (1 : Int32)), .val (.long (x3 * ((1 : Int32).toInt64))), .second, .val (.int (0 : Int32)), .val (.int (0 : Int32))] [(.int (DD 0)), (.int (0 : Int32))]))
    by_cases hc67 : (DD 0) = (0 : Int32)
    · refine own_Goes.step (fun tq kq => XS.ifYes X49.here hx rfl (pc0 := 161) (pc' := 168) rfl (hb hby d21_161) rfl (XT.i0_eq_t hc67) (by decide) (by decide) kq) ?_
      show own_Goes _ _ _ _ _ _ _ (T49.setTop (mkF m 168 #[.val (.ref x0), .val (.ref x1), .val .null, .val (.long x3), .second, .val (.ref x4), .val (.int (1 : Int32)), .val (.long (x3 * ((1 : Int32).toInt64))), .second, .val (.int (0 : Int32)), .val (.int (0 : Int32))] [(.int (0 : Int32))]))
      refine own_Goes.step (fun tq kq => XT.iconstV X49.here hx rfl (0 : Int32) (hb hby d21_168) (by decide) kq) ?_
      show own_Goes _ _ _ _ _ _ _ (T49.setTop (mkF m 169 #[.val (.ref x0), .val (.ref x1), .val .null, .val (.long x3), .second, .val (.ref x4), .val (.int (1 : Int32)), .val (.long (x3 * ((1 : Int32).toInt64))), .second, .val (.int (0 : Int32)), .val (.int (0 : Int32))] [(.int (0 : Int32)), (.int (0 : Int32))]))
      refine own_Goes.step (fun tq kq => XS.iadd X49.here hx rfl (hb hby d21_169) rfl kq) ?_
      show own_Goes _ _ _ _ _ _ _ (T49.setTop (mkF m 170 #[.val (.ref x0), .val (.ref x1), .val .null, .val (.long x3), .second, .val (.ref x4), .val (.int (1 : Int32)), .val (.long (x3 * ((1 : Int32).toInt64))), .second, .val (.int (0 : Int32)), .val (.int (0 : Int32))] [(.int (0 : Int32))]))
      refine own_Goes.step (fun tq kq => XS.istore X49.here hx rfl (hb hby d21_170) rfl (l' := #[.val (.ref x0), .val (.ref x1), .val .null, .val (.long x3), .second, .val (.ref x4), .val (.int (1 : Int32)), .val (.long (x3 * ((1 : Int32).toInt64))), .second, .val (.int (0 : Int32)), .val (.int (0 : Int32))]) rfl kq) ?_
      show own_Goes _ _ _ _ _ _ _ (T49.setTop (mkF m 172 #[.val (.ref x0), .val (.ref x1), .val .null, .val (.long x3), .second, .val (.ref x4), .val (.int (1 : Int32)), .val (.long (x3 * ((1 : Int32).toInt64))), .second, .val (.int (0 : Int32)), .val (.int (0 : Int32))] []))
      refine own_Goes.step (fun tq kq => XT.iincV X49.here hx rfl (1 : Int32) (hb hby d21_172) (by decide) rfl (l' := #[.val (.ref x0), .val (.ref x1), .val .null, .val (.long x3), .second, .val (.ref x4), .val (.int (1 : Int32)), .val (.long (x3 * ((1 : Int32).toInt64))), .second, .val (.int (0 : Int32)), .val (.int (1 : Int32))]) rfl kq) ?_
      show own_Goes _ _ _ _ _ _ _ (T49.setTop (mkF m 175 #[.val (.ref x0), .val (.ref x1), .val .null, .val (.long x3), .second, .val (.ref x4), .val (.int (1 : Int32)), .val (.long (x3 * ((1 : Int32).toInt64))), .second, .val (.int (0 : Int32)), .val (.int (1 : Int32))] []))
      refine own_Goes.step (fun tq kq => XS.goto X49.here hx rfl (pc0 := 175) (pc' := 147) rfl (hb hby d21_175) (by decide) (by decide) kq) ?_
      show own_Goes _ _ _ _ _ _ _ (T49.setTop (mkF m 147 #[.val (.ref x0), .val (.ref x1), .val .null, .val (.long x3), .second, .val (.ref x4), .val (.int (1 : Int32)), .val (.long (x3 * ((1 : Int32).toInt64))), .second, .val (.int (0 : Int32)), .val (.int (1 : Int32))] []))
      refine own_Goes.step (fun tq kq => XS.iload X49.here hx rfl (hb hby d21_147) rfl kq) ?_
      show own_Goes _ _ _ _ _ _ _ (T49.setTop (mkF m 149 #[.val (.ref x0), .val (.ref x1), .val .null, .val (.long x3), .second, .val (.ref x4), .val (.int (1 : Int32)), .val (.long (x3 * ((1 : Int32).toInt64))), .second, .val (.int (0 : Int32)), .val (.int (1 : Int32))] [(.int (1 : Int32))]))
      refine own_Goes.step (fun tq kq => XS.iload X49.here hx rfl (hb hby d21_149) rfl kq) ?_
      show own_Goes _ _ _ _ _ _ _ (T49.setTop (mkF m 151 #[.val (.ref x0), .val (.ref x1), .val .null, .val (.long x3), .second, .val (.ref x4), .val (.int (1 : Int32)), .val (.long (x3 * ((1 : Int32).toInt64))), .second, .val (.int (0 : Int32)), .val (.int (1 : Int32))] [(.int (1 : Int32)), (.int (1 : Int32))]))
      refine own_Goes.step (fun tq kq => XS.icmpYes X49.here hx rfl (pc0 := 151) (pc' := 178) rfl (hb hby d21_151) rfl (XT.ii_ge_t (by decide)) (by decide) (by decide) kq) ?_
      show own_Goes _ _ _ _ _ _ _ (T49.setTop (mkF m 178 #[.val (.ref x0), .val (.ref x1), .val .null, .val (.long x3), .second, .val (.ref x4), .val (.int (1 : Int32)), .val (.long (x3 * ((1 : Int32).toInt64))), .second, .val (.int (0 : Int32)), .val (.int (1 : Int32))] []))
      refine own_Goes.step (fun tq kq => XS.aloadN X49.here hx rfl (hb hby d21_178) rfl rfl kq) ?_
      show own_Goes _ _ _ _ _ _ _ (T49.setTop (mkF m 179 #[.val (.ref x0), .val (.ref x1), .val .null, .val (.long x3), .second, .val (.ref x4), .val (.int (1 : Int32)), .val (.long (x3 * ((1 : Int32).toInt64))), .second, .val (.int (0 : Int32)), .val (.int (1 : Int32))] [(.ref x0)]))
      refine own_Goes.step (fun tq kq => XT.lload X49.here hx rfl (hb hby d21_179) rfl kq) ?_
      show own_Goes _ _ _ _ _ _ _ (T49.setTop (mkF m 181 #[.val (.ref x0), .val (.ref x1), .val .null, .val (.long x3), .second, .val (.ref x4), .val (.int (1 : Int32)), .val (.long (x3 * ((1 : Int32).toInt64))), .second, .val (.int (0 : Int32)), .val (.int (1 : Int32))] [(.long (x3 * ((1 : Int32).toInt64))), (.ref x0)]))
      obtain ⟨T68, h68, X68, e68, W68, st68⟩ := putF X49 hx hZ hown (host := "") (Or.inl (own_at hw 140 rfl)) Via.refl e49 (v := (.long (x3 * ((1 : Int32).toInt64)))) f55 f50 (Or.inr ⟨(own_at hw 141 rfl), rfl, hnm⟩) (own_at hw 127 rfl) (ty := .long) (by decide) rfl rfl (g := (mkF m 181 #[.val (.ref x0), .val (.ref x1), .val .null, .val (.long x3), .second, .val (.ref x4), .val (.int (1 : Int32)), .val (.long (x3 * ((1 : Int32).toInt64))), .second, .val (.int (0 : Int32)), .val (.int (1 : Int32))] [(.long (x3 * ((1 : Int32).toInt64))), (.ref x0)])) rfl rfl (hb hby d21_181)
      refine own_Goes.step st68 ?_
      have f69 := f50.wr W68
      have f70 := f51.other W68 (Or.inr (slot_ne (Or.inr (own_at hw 133 rfl)) (Or.inr (own_at hw 141 rfl)) (by decide) (t := (.array .long)) (t' := .long) (by decide) (by decide)))
      have f71 := f52.other W68 (Or.inr (slot_ne (Or.inr (own_at hw 135 rfl)) (Or.inr (own_at hw 141 rfl)) (by decide) (t := (.array .long)) (t' := .long) (by decide) (by decide)))
      have f72 := f53.other W68 (Or.inr (slot_ne (Or.inr (own_at hw 137 rfl)) (Or.inr (own_at hw 141 rfl)) (by decide) (t := .long) (t' := .long) (by decide) (by decide)))
      have f73 := f54.other W68 (Or.inr (slot_ne (Or.inr (own_at hw 139 rfl)) (Or.inr (own_at hw 141 rfl)) (by decide) (t := (.array .boolean)) (t' := .long) (by decide) (by decide)))
      have f74 := f55.same W68
      have f75 := f56.other W68 (Or.inr (slot_ne (Or.inr (own_at hw 143 rfl)) (Or.inr (own_at hw 141 rfl)) (by decide) (t := .int) (t' := .long) (by decide) (by decide)))
      have f76 := f57.other W68 (Or.inr (slot_ne (Or.inr (own_at hw 180 rfl)) (Or.inr (own_at hw 141 rfl)) (by decide) (t := (.object "java/util/Optional")) (t' := .long) (by decide) (by decide)))
      have f77 := f58.other W68 (Ne.symm s1)
      have f78 := f59.other W68 (Ne.symm s2)
      have K79 := K60.wr W68 (Or.inl (List.mem_of_getElem? (i := 0) rfl))
      have N80 := Fr.snoc X68 N61 g0
      have Z81 : n0 ≤ h68.size := Nat.le_trans Z62 (Keep.of_wr W68).1
      show own_Goes _ _ _ _ _ _ _ (T68.setTop (mkF m 184 #[.val (.ref x0), .val (.ref x1), .val .null, .val (.long x3), .second, .val (.ref x4), .val (.int (1 : Int32)), .val (.long (x3 * ((1 : Int32).toInt64))), .second, .val (.int (0 : Int32)), .val (.int (1 : Int32))] []))
      refine own_Goes.step (fun tq kq => XS.aloadN X68.here hx rfl (hb hby d21_184) rfl rfl kq) ?_
      show own_Goes _ _ _ _ _ _ _ (T68.setTop (mkF m 185 #[.val (.ref x0), .val (.ref x1), .val .null, .val (.long x3), .second, .val (.ref x4), .val (.int (1 : Int32)), .val (.long (x3 * ((1 : Int32).toInt64))), .second, .val (.int (0 : Int32)), .val (.int (1 : Int32))] [(.ref x0)]))
      refine own_Goes.step (fun tq kq => XS.iload X68.here hx rfl (hb hby d21_185) rfl kq) ?_
      show own_Goes _ _ _ _ _ _ _ (T68.setTop (mkF m 187 #[.val (.ref x0), .val (.ref x1), .val .null, .val (.long x3), .second, .val (.ref x4), .val (.int (1 : Int32)), .val (.long (x3 * ((1 : Int32).toInt64))), .second, .val (.int (0 : Int32)), .val (.int (1 : Int32))] [(.int (0 : Int32)), (.ref x0)]))
      obtain ⟨T82, h82, X82, e82, W82, st82⟩ := putF X68 hx hZ hown (host := "") (Or.inl (own_at hw 142 rfl)) Via.refl e68 (v := (.int (0 : Int32))) f75 f69 (Or.inr ⟨(own_at hw 143 rfl), rfl, hnm⟩) (own_at hw 127 rfl) (ty := .int) (by decide) rfl rfl (g := (mkF m 187 #[.val (.ref x0), .val (.ref x1), .val .null, .val (.long x3), .second, .val (.ref x4), .val (.int (1 : Int32)), .val (.long (x3 * ((1 : Int32).toInt64))), .second, .val (.int (0 : Int32)), .val (.int (1 : Int32))] [(.int (0 : Int32)), (.ref x0)])) rfl rfl (hb hby d21_187)
      refine own_Goes.step st82 ?_
      have f83 := f69.wr W82
      have f84 := f70.other W82 (Or.inr (slot_ne (Or.inr (own_at hw 133 rfl)) (Or.inr (own_at hw 143 rfl)) (by decide) (t := (.array .long)) (t' := .int) (by decide) (by decide)))
      have f85 := f71.other W82 (Or.inr (slot_ne (Or.inr (own_at hw 135 rfl)) (Or.inr (own_at hw 143 rfl)) (by decide) (t := (.array .long)) (t' := .int) (by decide) (by decide)))
      have f86 := f72.other W82 (Or.inr (slot_ne (Or.inr (own_at hw 137 rfl)) (Or.inr (own_at hw 143 rfl)) (by decide) (t := .long) (t' := .int) (by decide) (by decide)))
      have f87 := f73.other W82 (Or.inr (slot_ne (Or.inr (own_at hw 139 rfl)) (Or.inr (own_at hw 143 rfl)) (by decide) (t := (.array .boolean)) (t' := .int) (by decide) (by decide)))
      have f88 := f74.other W82 (Or.inr (slot_ne (Or.inr (own_at hw 141 rfl)) (Or.inr (own_at hw 143 rfl)) (by decide) (t := .long) (t' := .int) (by decide) (by decide)))
      have f89 := f75.same W82
      have f90 := f76.other W82 (Or.inr (slot_ne (Or.inr (own_at hw 180 rfl)) (Or.inr (own_at hw 143 rfl)) (by decide) (t := (.object "java/util/Optional")) (t' := .int) (by decide) (by decide)))
      have f91 := f77.other W82 (Ne.symm s1)
      have f92 := f78.other W82 (Ne.symm s2)
      have K93 := K79.wr W82 (Or.inl (List.mem_of_getElem? (i := 0) rfl))
      have N94 := Fr.snoc X82 N80 g0
      have Z95 : n0 ≤ h82.size := Nat.le_trans Z81 (Keep.of_wr W82).1
      show own_Goes _ _ _ _ _ _ _ (T82.setTop (mkF m 190 #[.val (.ref x0), .val (.ref x1), .val .null, .val (.long x3), .second, .val (.ref x4), .val (.int (1 : Int32)), .val (.long (x3 * ((1 : Int32).toInt64))), .second, .val (.int (0 : Int32)), .val (.int (1 : Int32))] []))
      refine own_Goes.step (fun tq kq => XS.aloadN X82.here hx rfl (hb hby d21_190) rfl rfl kq) ?_
      show own_Goes _ _ _ _ _ _ _ (T82.setTop (mkF m 191 #[.val (.ref x0), .val (.ref x1), .val .null, .val (.long x3), .second, .val (.ref x4), .val (.int (1 : Int32)), .val (.long (x3 * ((1 : Int32).toInt64))), .second, .val (.int (0 : Int32)), .val (.int (1 : Int32))] [(.ref x0)]))
      refine own_Goes.step (fun tq kq => XS.iload X82.here hx rfl (hb hby d21_191) rfl kq) ?_
      show own_Goes _ _ _ _ _ _ _ (T82.setTop (mkF m 193 #[.val (.ref x0), .val (.ref x1), .val .null, .val (.long x3), .second, .val (.ref x4), .val (.int (1 : Int32)), .val (.long (x3 * ((1 : Int32).toInt64))), .second, .val (.int (0 : Int32)), .val (.int (1 : Int32))] [(.int (1 : Int32)), (.ref x0)]))
      refine own_Goes.step (fun tq kq => XS.ifYes X82.here hx rfl (pc0 := 193) (pc' := 202) rfl (hb hby d21_193) rfl (XT.i0_ne_t (by decide)) (by decide) (by decide) kq) ?_
      show own_Goes _ _ _ _ _ _ _ (T82.setTop (mkF m 202 #[.val (.ref x0), .val (.ref x1), .val .null, .val (.long x3), .second, .val (.ref x4), .val (.int (1 : Int32)), .val (.long (x3 * ((1 : Int32).toInt64))), .second, .val (.int (0 : Int32)), .val (.int (1 : Int32))] [(.ref x0)]))
      obtain ⟨T96, h96, X96, e96, E96, A96, D96, -, st96⟩ := newO X82 hx hZ hown (own_at hw 144 rfl) (own_at hw 145 rfl) (own_at hw 146 rfl) e82 (g := (mkF m 202 #[.val (.ref x0), .val (.ref x1), .val .null, .val (.long x3), .second, .val (.ref x4), .val (.int (1 : Int32)), .val (.long (x3 * ((1 : Int32).toInt64))), .second, .val (.int (0 : Int32)), .val (.int (1 : Int32))] [(.ref x0)])) rfl (hb hby d21_202) (by decide) (by decide)
      obtain ⟨a96, g96⟩ : ∃ z, z = h82.size := ⟨_, rfl⟩
      rw [← g96] at A96 D96 st96
      have ne97 : x0 ≠ a96 := by rw [g96]; exact Nat.ne_of_lt f83.lt
      have ne98 : x1 ≠ a96 := by rw [g96]; exact Nat.ne_of_lt f91.lt
      have ne99 : x4 ≠ a96 := by rw [g96]; exact Nat.ne_of_lt f92.lt
      have f100 := Jvm.RoadKit.Exa.ext E96 f83
      have f101 := Jvm.RoadKit.Fld.ext E96 f84
      have f102 := Jvm.RoadKit.Fld.ext E96 f85
      have f103 := Jvm.RoadKit.Fld.ext E96 f86
      have f104 := Jvm.RoadKit.Fld.ext E96 f87
      have f105 := Jvm.RoadKit.Fld.ext E96 f88
      have f106 := Jvm.RoadKit.Fld.ext E96 f89
      have f107 := Jvm.RoadKit.Fld.ext E96 f90
      have f108 := f91.ext E96
      have f109 := f92.ext E96
      have f110 : Fld Z h96 a96 "com/example/strati/strati/model/KeyRange" "min" "J" (.long (0 : Int64)) := D96 (Or.inr (own_at hw 159 rfl)) (ty := .long) (by decide)
      have f111 : Fld Z h96 a96 "com/example/strati/strati/model/KeyRange" "max" "J" (.long (0 : Int64)) := D96 (Or.inr (own_at hw 161 rfl)) (ty := .long) (by decide)
      have ga96 : n0 ≤ a96 := Nat.le_trans Z95 (Nat.le_of_eq g96.symm)
      have Z96 : n0 ≤ h96.size := Nat.le_trans Z95 E96.1
      have K96 := K93.ext E96
      have Kh96 : h0.size ≤ a96 := Nat.le_trans K93.1 (Nat.le_of_eq g96.symm)
      refine own_Goes.step st96 ?_
      show own_Goes _ _ _ _ _ _ _ (T96.setTop (mkF m 205 #[.val (.ref x0), .val (.ref x1), .val .null, .val (.long x3), .second, .val (.ref x4), .val (.int (1 : Int32)), .val (.long (x3 * ((1 : Int32).toInt64))), .second, .val (.int (0 : Int32)), .val (.int (1 : Int32))] [(.ref a96), (.ref x0)]))
      refine own_Goes.step (fun tq kq => XS.dup X96.here hx rfl (hb hby d21_205) rfl rfl kq) ?_
      show own_Goes _ _ _ _ _ _ _ (T96.setTop (mkF m 206 #[.val (.ref x0), .val (.ref x1), .val .null, .val (.long x3), .second, .val (.ref x4), .val (.int (1 : Int32)), .val (.long (x3 * ((1 : Int32).toInt64))), .second, .val (.int (0 : Int32)), .val (.int (1 : Int32))] [(.ref a96), (.ref a96), (.ref x0)]))
      refine own_Goes.step (fun tq kq => XS.aloadN X96.here hx rfl (hb hby d21_206) rfl rfl kq) ?_
      show own_Goes _ _ _ _ _ _ _ (T96.setTop (mkF m 207 #[.val (.ref x0), .val (.ref x1), .val .null, .val (.long x3), .second, .val (.ref x4), .val (.int (1 : Int32)), .val (.long (x3 * ((1 : Int32).toInt64))), .second, .val (.int (0 : Int32)), .val (.int (1 : Int32))] [(.ref x1), (.ref a96), (.ref a96), (.ref x0)]))
      refine own_Goes.step (fun tq kq => XT.iconstV X96.here hx rfl (0 : Int32) (hb hby d21_207) (by decide) kq) ?_
      show own_Goes _ _ _ _ _ _ _ (T96.setTop (mkF m 208 #[.val (.ref x0), .val (.ref x1), .val .null, .val (.long x3), .second, .val (.ref x4), .val (.int (1 : Int32)), .val (.long (x3 * ((1 : Int32).toInt64))), .second, .val (.int (0 : Int32)), .val (.int (1 : Int32))] [(.int (0 : Int32)), (.ref x1), (.ref a96), (.ref a96), (.ref x0)]))
      refine own_Goes.step (own_lald X96 hx hZ e96 f108 (i := 0) rfl (by decide) (v := (.long (KB 0))) rfl (g := (mkF m 208 #[.val (.ref x0), .val (.ref x1), .val .null, .val (.long x3), .second, .val (.ref x4), .val (.int (1 : Int32)), .val (.long (x3 * ((1 : Int32).toInt64))), .second, .val (.int (0 : Int32)), .val (.int (1 : Int32))] [(.int (0 : Int32)), (.ref x1), (.ref a96), (.ref a96), (.ref x0)])) rfl rfl (hb hby d21_208)) ?_
      show own_Goes _ _ _ _ _ _ _ (T96.setTop (mkF m 209 #[.val (.ref x0), .val (.ref x1), .val .null, .val (.long x3), .second, .val (.ref x4), .val (.int (1 : Int32)), .val (.long (x3 * ((1 : Int32).toInt64))), .second, .val (.int (0 : Int32)), .val (.int (1 : Int32))] [(.long (KB 0)), (.ref a96), (.ref a96), (.ref x0)]))
      refine own_Goes.step (fun tq kq => XS.aloadN X96.here hx rfl (hb hby d21_209) rfl rfl kq) ?_
      show own_Goes _ _ _ _ _ _ _ (T96.setTop (mkF m 210 #[.val (.ref x0), .val (.ref x1), .val .null, .val (.long x3), .second, .val (.ref x4), .val (.int (1 : Int32)), .val (.long (x3 * ((1 : Int32).toInt64))), .second, .val (.int (0 : Int32)), .val (.int (1 : Int32))] [(.ref x1), (.long (KB 0)), (.ref a96), (.ref a96), (.ref x0)]))
      refine own_Goes.step (fun tq kq => XS.iload X96.here hx rfl (hb hby d21_210) rfl kq) ?_
      show own_Goes _ _ _ _ _ _ _ (T96.setTop (mkF m 212 #[.val (.ref x0), .val (.ref x1), .val .null, .val (.long x3), .second, .val (.ref x4), .val (.int (1 : Int32)), .val (.long (x3 * ((1 : Int32).toInt64))), .second, .val (.int (0 : Int32)), .val (.int (1 : Int32))] [(.int (1 : Int32)), (.ref x1), (.long (KB 0)), (.ref a96), (.ref a96), (.ref x0)]))
      refine own_Goes.step (fun tq kq => XT.iconstV X96.here hx rfl (1 : Int32) (hb hby d21_212) (by decide) kq) ?_
      show own_Goes _ _ _ _ _ _ _ (T96.setTop (mkF m 213 #[.val (.ref x0), .val (.ref x1), .val .null, .val (.long x3), .second, .val (.ref x4), .val (.int (1 : Int32)), .val (.long (x3 * ((1 : Int32).toInt64))), .second, .val (.int (0 : Int32)), .val (.int (1 : Int32))] [(.int (1 : Int32)), (.int (1 : Int32)), (.ref x1), (.long (KB 0)), (.ref a96), (.ref a96), (.ref x0)]))
      refine own_Goes.step (fun tq kq => XS.isub X96.here hx rfl (hb hby d21_213) rfl kq) ?_
      show own_Goes _ _ _ _ _ _ _ (T96.setTop (mkF m 214 #[.val (.ref x0), .val (.ref x1), .val .null, .val (.long x3), .second, .val (.ref x4), .val (.int (1 : Int32)), .val (.long (x3 * ((1 : Int32).toInt64))), .second, .val (.int (0 : Int32)), .val (.int (1 : Int32))] [(.int (0 : Int32)), (.ref x1), (.long (KB 0)), (.ref a96), (.ref a96), (.ref x0)]))
      refine own_Goes.step (own_lald X96 hx hZ e96 f108 (i := 0) rfl (by decide) (v := (.long (KB 0))) rfl (g := (mkF m 214 #[.val (.ref x0), .val (.ref x1), .val .null, .val (.long x3), .second, .val (.ref x4), .val (.int (1 : Int32)), .val (.long (x3 * ((1 : Int32).toInt64))), .second, .val (.int (0 : Int32)), .val (.int (1 : Int32))] [(.int (0 : Int32)), (.ref x1), (.long (KB 0)), (.ref a96), (.ref a96), (.ref x0)])) rfl rfl (hb hby d21_214)) ?_
      show own_Goes _ _ _ _ _ _ _ (T96.setTop (mkF m 215 #[.val (.ref x0), .val (.ref x1), .val .null, .val (.long x3), .second, .val (.ref x4), .val (.int (1 : Int32)), .val (.long (x3 * ((1 : Int32).toInt64))), .second, .val (.int (0 : Int32)), .val (.int (1 : Int32))] [(.long (KB 0)), (.long (KB 0)), (.ref a96), (.ref a96), (.ref x0)]))
      obtain ⟨w115, T115, L115, q115, Y115, st115⟩ := own_spec X96 hx hZ e96 rfl hown (own_at hw 147 rfl) (own_at hw 148 rfl) (own_at hw 146 rfl) (own_at hw 149 rfl) (by decide) (own_m22 l Z a0 hw [] a96 (KB 0) (KB 0) n0 h96 A96 ga96 f110 f111 (own_cmp0 _) ) (by decide) (W := 2) (by decide) (by decide) (by decide) (g := (mkF m 215 #[.val (.ref x0), .val (.ref x1), .val .null, .val (.long x3), .second, .val (.ref x4), .val (.int (1 : Int32)), .val (.long (x3 * ((1 : Int32).toInt64))), .second, .val (.int (0 : Int32)), .val (.int (1 : Int32))] [(.long (KB 0)), (.long (KB 0)), (.ref a96), (.ref a96), (.ref x0)])) rfl (by rw [hml]; rfl) (a := a96) (argsL := [(.long (KB 0)), (.long (KB 0))]) (rest := [(.ref a96), (.ref x0)]) (lenOf pd_22 rfl) rfl (by show 2 * 0 + _ ≤ _; exact Nat.le_of_eq rfl) (hb hby d21_215)
      obtain ⟨rfl, N115, K115, E115, c115_0, c115_1⟩ := q115
      have f116 := f100.keep K115
      have f117 := f101.keep K115 (own_nin ne97)
      have f118 := f102.keep K115 (own_nin ne97)
      have f119 := f103.keep K115 (own_nin ne97)
      have f120 := f104.keep K115 (own_nin ne97)
      have f121 := f105.keep K115 (own_nin ne97)
      have f122 := f106.keep K115 (own_nin ne97)
      have f123 := f107.keep K115 (own_nin ne97)
      have f124 := f108.keep K115 (own_nin ne98)
      have f125 := f109.keep K115 (own_nin ne99)
      have N129 := Fr.app N94 N115
      have Z130 : n0 ≤ T115.heap.size := Nat.le_trans Z96 K115.1
      have K131 := K96.trans K115 (own_kt (Or.inr Kh96))
      refine own_Goes.step st115 ?_
      show own_Goes _ _ _ _ _ _ _ (T115.setTop (mkF m 218 #[.val (.ref x0), .val (.ref x1), .val .null, .val (.long x3), .second, .val (.ref x4), .val (.int (1 : Int32)), .val (.long (x3 * ((1 : Int32).toInt64))), .second, .val (.int (0 : Int32)), .val (.int (1 : Int32))] [(.ref a96), (.ref x0)]))
      obtain ⟨w132, T132, L132, q132, Y132, st132⟩ := own_stat Y115 hx hZ rfl hown (own_at hw 162 rfl) (own_at hw 163 rfl) (own_at hw 164 rfl) (own_at hw 165 rfl) (by decide) (own_m25 l Z a0 hw [] a96 n0 T115.heap Z130) (by decide) (W := 1) (by decide) (by decide) (by decide) (g := (mkF m 218 #[.val (.ref x0), .val (.ref x1), .val .null, .val (.long x3), .second, .val (.ref x4), .val (.int (1 : Int32)), .val (.long (x3 * ((1 : Int32).toInt64))), .second, .val (.int (0 : Int32)), .val (.int (1 : Int32))] [(.ref a96), (.ref x0)])) rfl (by rw [hml]; rfl) (argsL := [(.ref a96)]) (rest := [(.ref x0)]) (lenOf pd_25 rfl) rfl (by show 2 * 0 + _ ≤ _; exact Nat.le_of_eq rfl) (hb hby d21_218)
      obtain ⟨o132, rfl, N132, K132⟩ := q132
      have Nn132 := Fr.app N129 N132
      have Kn132 := K131.trans K132 (fun x hx => by cases hx)
      have Zn132 : n0 ≤ T132.heap.size := Nat.le_trans Z130 K132.1
      have f133 := f116.keep K132
      have f134 := f117.keep K132 (fun q => by cases q)
      have f135 := f118.keep K132 (fun q => by cases q)
      have f136 := f119.keep K132 (fun q => by cases q)
      have f137 := f120.keep K132 (fun q => by cases q)
      have f138 := f121.keep K132 (fun q => by cases q)
      have f139 := f122.keep K132 (fun q => by cases q)
      have f140 := f123.keep K132 (fun q => by cases q)
      have f141 := f124.keep K132 (fun q => by cases q)
      have f142 := f125.keep K132 (fun q => by cases q)
      have f143 := E115.keep K132
      have f144 := c115_0.keep K132 (fun q => by cases q)
      have f145 := c115_1.keep K132 (fun q => by cases q)
      refine own_Goes.step st132 ?_
      show own_Goes _ _ _ _ _ _ _ (T132.setTop (mkF m 221 #[.val (.ref x0), .val (.ref x1), .val .null, .val (.long x3), .second, .val (.ref x4), .val (.int (1 : Int32)), .val (.long (x3 * ((1 : Int32).toInt64))), .second, .val (.int (0 : Int32)), .val (.int (1 : Int32))] [(.ref o132), (.ref x0)]))
      obtain ⟨T146, h146, X146, e146, W146, st146⟩ := putF Y132 hx hZ hown (host := "") (Or.inl (own_at hw 179 rfl)) Via.refl rfl (v := (.ref o132)) f140 f133 (Or.inr ⟨(own_at hw 180 rfl), rfl, hnm⟩) (own_at hw 127 rfl) (ty := (.object "java/util/Optional")) (by decide) rfl rfl (g := (mkF m 221 #[.val (.ref x0), .val (.ref x1), .val .null, .val (.long x3), .second, .val (.ref x4), .val (.int (1 : Int32)), .val (.long (x3 * ((1 : Int32).toInt64))), .second, .val (.int (0 : Int32)), .val (.int (1 : Int32))] [(.ref o132), (.ref x0)])) rfl rfl (hb hby d21_221)
      refine own_Goes.step st146 ?_
      have f147 := f133.wr W146
      have f148 := f134.other W146 (Or.inr (slot_ne (Or.inr (own_at hw 133 rfl)) (Or.inr (own_at hw 180 rfl)) (by decide) (t := (.array .long)) (t' := (.object "java/util/Optional")) (by decide) (by decide)))
      have f149 := f135.other W146 (Or.inr (slot_ne (Or.inr (own_at hw 135 rfl)) (Or.inr (own_at hw 180 rfl)) (by decide) (t := (.array .long)) (t' := (.object "java/util/Optional")) (by decide) (by decide)))
      have f150 := f136.other W146 (Or.inr (slot_ne (Or.inr (own_at hw 137 rfl)) (Or.inr (own_at hw 180 rfl)) (by decide) (t := .long) (t' := (.object "java/util/Optional")) (by decide) (by decide)))
      have f151 := f137.other W146 (Or.inr (slot_ne (Or.inr (own_at hw 139 rfl)) (Or.inr (own_at hw 180 rfl)) (by decide) (t := (.array .boolean)) (t' := (.object "java/util/Optional")) (by decide) (by decide)))
      have f152 := f138.other W146 (Or.inr (slot_ne (Or.inr (own_at hw 141 rfl)) (Or.inr (own_at hw 180 rfl)) (by decide) (t := .long) (t' := (.object "java/util/Optional")) (by decide) (by decide)))
      have f153 := f139.other W146 (Or.inr (slot_ne (Or.inr (own_at hw 143 rfl)) (Or.inr (own_at hw 180 rfl)) (by decide) (t := .int) (t' := (.object "java/util/Optional")) (by decide) (by decide)))
      have f154 := f140.same W146
      have f155 := f141.other W146 (Ne.symm s1)
      have f156 := f142.other W146 (Ne.symm s2)
      have f157 := f143.wr W146
      have f158 := f144.other W146 (Or.inl (Ne.symm ne97))
      have f159 := f145.other W146 (Or.inl (Ne.symm ne97))
      have K160 := Kn132.wr W146 (Or.inl (List.mem_of_getElem? (i := 0) rfl))
      have N161 := Fr.snoc X146 Nn132 g0
      have Z162 : n0 ≤ h146.size := Nat.le_trans Zn132 (Keep.of_wr W146).1
      show own_Goes _ _ _ _ _ _ _ (T146.setTop (mkF m 224 #[.val (.ref x0), .val (.ref x1), .val .null, .val (.long x3), .second, .val (.ref x4), .val (.int (1 : Int32)), .val (.long (x3 * ((1 : Int32).toInt64))), .second, .val (.int (0 : Int32)), .val (.int (1 : Int32))] []))
      refine own_endV X146 hx Bd.notSynchronized Bd.returns (hb hby d21_224) ?_ (by decide) (by decide)
      show own_F21o Z x0 x1 x3 x4 KB DD n0 h0 _ T146.heap _
      rw [e146]
      exact ⟨rfl, N161, K160, f147, f148, f152, f155⟩
    · refine own_Goes.step (fun tq kq => XS.ifNo X49.here hx rfl (hb hby d21_161) rfl (XT.i0_eq_f hc67) kq) ?_
      show own_Goes _ _ _ _ _ _ _ (T49.setTop (mkF m 164 #[.val (.ref x0), .val (.ref x1), .val .null, .val (.long x3), .second, .val (.ref x4), .val (.int (1 : Int32)), .val (.long (x3 * ((1 : Int32).toInt64))), .second, .val (.int (0 : Int32)), .val (.int (0 : Int32))] [(.int (0 : Int32))]))
      refine own_Goes.step (fun tq kq => XT.iconstV X49.here hx rfl (1 : Int32) (hb hby d21_164) (by decide) kq) ?_
      show own_Goes _ _ _ _ _ _ _ (T49.setTop (mkF m 165 #[.val (.ref x0), .val (.ref x1), .val .null, .val (.long x3), .second, .val (.ref x4), .val (.int (1 : Int32)), .val (.long (x3 * ((1 : Int32).toInt64))), .second, .val (.int (0 : Int32)), .val (.int (0 : Int32))] [(.int (1 : Int32)), (.int (0 : Int32))]))
      refine own_Goes.step (fun tq kq => XS.goto X49.here hx rfl (pc0 := 165) (pc' := 169) rfl (hb hby d21_165) (by decide) (by decide) kq) ?_
      show own_Goes _ _ _ _ _ _ _ (T49.setTop (mkF m 169 #[.val (.ref x0), .val (.ref x1), .val .null, .val (.long x3), .second, .val (.ref x4), .val (.int (1 : Int32)), .val (.long (x3 * ((1 : Int32).toInt64))), .second, .val (.int (0 : Int32)), .val (.int (0 : Int32))] [(.int (1 : Int32)), (.int (0 : Int32))]))
      refine own_Goes.step (fun tq kq => XS.iadd X49.here hx rfl (hb hby d21_169) rfl kq) ?_
      show own_Goes _ _ _ _ _ _ _ (T49.setTop (mkF m 170 #[.val (.ref x0), .val (.ref x1), .val .null, .val (.long x3), .second, .val (.ref x4), .val (.int (1 : Int32)), .val (.long (x3 * ((1 : Int32).toInt64))), .second, .val (.int (0 : Int32)), .val (.int (0 : Int32))] [(.int (1 : Int32))]))
      refine own_Goes.step (fun tq kq => XS.istore X49.here hx rfl (hb hby d21_170) rfl (l' := #[.val (.ref x0), .val (.ref x1), .val .null, .val (.long x3), .second, .val (.ref x4), .val (.int (1 : Int32)), .val (.long (x3 * ((1 : Int32).toInt64))), .second, .val (.int (1 : Int32)), .val (.int (0 : Int32))]) rfl kq) ?_
      show own_Goes _ _ _ _ _ _ _ (T49.setTop (mkF m 172 #[.val (.ref x0), .val (.ref x1), .val .null, .val (.long x3), .second, .val (.ref x4), .val (.int (1 : Int32)), .val (.long (x3 * ((1 : Int32).toInt64))), .second, .val (.int (1 : Int32)), .val (.int (0 : Int32))] []))
      refine own_Goes.step (fun tq kq => XT.iincV X49.here hx rfl (1 : Int32) (hb hby d21_172) (by decide) rfl (l' := #[.val (.ref x0), .val (.ref x1), .val .null, .val (.long x3), .second, .val (.ref x4), .val (.int (1 : Int32)), .val (.long (x3 * ((1 : Int32).toInt64))), .second, .val (.int (1 : Int32)), .val (.int (1 : Int32))]) rfl kq) ?_
      show own_Goes _ _ _ _ _ _ _ (T49.setTop (mkF m 175 #[.val (.ref x0), .val (.ref x1), .val .null, .val (.long x3), .second, .val (.ref x4), .val (.int (1 : Int32)), .val (.long (x3 * ((1 : Int32).toInt64))), .second, .val (.int (1 : Int32)), .val (.int (1 : Int32))] []))
      refine own_Goes.step (fun tq kq => XS.goto X49.here hx rfl (pc0 := 175) (pc' := 147) rfl (hb hby d21_175) (by decide) (by decide) kq) ?_
      show own_Goes _ _ _ _ _ _ _ (T49.setTop (mkF m 147 #[.val (.ref x0), .val (.ref x1), .val .null, .val (.long x3), .second, .val (.ref x4), .val (.int (1 : Int32)), .val (.long (x3 * ((1 : Int32).toInt64))), .second, .val (.int (1 : Int32)), .val (.int (1 : Int32))] []))
      refine own_Goes.step (fun tq kq => XS.iload X49.here hx rfl (hb hby d21_147) rfl kq) ?_
      show own_Goes _ _ _ _ _ _ _ (T49.setTop (mkF m 149 #[.val (.ref x0), .val (.ref x1), .val .null, .val (.long x3), .second, .val (.ref x4), .val (.int (1 : Int32)), .val (.long (x3 * ((1 : Int32).toInt64))), .second, .val (.int (1 : Int32)), .val (.int (1 : Int32))] [(.int (1 : Int32))]))
      refine own_Goes.step (fun tq kq => XS.iload X49.here hx rfl (hb hby d21_149) rfl kq) ?_
      show own_Goes _ _ _ _ _ _ _ (T49.setTop (mkF m 151 #[.val (.ref x0), .val (.ref x1), .val .null, .val (.long x3), .second, .val (.ref x4), .val (.int (1 : Int32)), .val (.long (x3 * ((1 : Int32).toInt64))), .second, .val (.int (1 : Int32)), .val (.int (1 : Int32))] [(.int (1 : Int32)), (.int (1 : Int32))]))
      refine own_Goes.step (fun tq kq => XS.icmpYes X49.here hx rfl (pc0 := 151) (pc' := 178) rfl (hb hby d21_151) rfl (XT.ii_ge_t (by decide)) (by decide) (by decide) kq) ?_
      show own_Goes _ _ _ _ _ _ _ (T49.setTop (mkF m 178 #[.val (.ref x0), .val (.ref x1), .val .null, .val (.long x3), .second, .val (.ref x4), .val (.int (1 : Int32)), .val (.long (x3 * ((1 : Int32).toInt64))), .second, .val (.int (1 : Int32)), .val (.int (1 : Int32))] []))
      refine own_Goes.step (fun tq kq => XS.aloadN X49.here hx rfl (hb hby d21_178) rfl rfl kq) ?_
      show own_Goes _ _ _ _ _ _ _ (T49.setTop (mkF m 179 #[.val (.ref x0), .val (.ref x1), .val .null, .val (.long x3), .second, .val (.ref x4), .val (.int (1 : Int32)), .val (.long (x3 * ((1 : Int32).toInt64))), .second, .val (.int (1 : Int32)), .val (.int (1 : Int32))] [(.ref x0)]))
      refine own_Goes.step (fun tq kq => XT.lload X49.here hx rfl (hb hby d21_179) rfl kq) ?_
      show own_Goes _ _ _ _ _ _ _ (T49.setTop (mkF m 181 #[.val (.ref x0), .val (.ref x1), .val .null, .val (.long x3), .second, .val (.ref x4), .val (.int (1 : Int32)), .val (.long (x3 * ((1 : Int32).toInt64))), .second, .val (.int (1 : Int32)), .val (.int (1 : Int32))] [(.long (x3 * ((1 : Int32).toInt64))), (.ref x0)]))
      obtain ⟨T163, h163, X163, e163, W163, st163⟩ := putF X49 hx hZ hown (host := "") (Or.inl (own_at hw 140 rfl)) Via.refl e49 (v := (.long (x3 * ((1 : Int32).toInt64)))) f55 f50 (Or.inr ⟨(own_at hw 141 rfl), rfl, hnm⟩) (own_at hw 127 rfl) (ty := .long) (by decide) rfl rfl (g := (mkF m 181 #[.val (.ref x0), .val (.ref x1), .val .null, .val (.long x3), .second, .val (.ref x4), .val (.int (1 : Int32)), .val (.long (x3 * ((1 : Int32).toInt64))), .second, .val (.int (1 : Int32)), .val (.int (1 : Int32))] [(.long (x3 * ((1 : Int32).toInt64))), (.ref x0)])) rfl rfl (hb hby d21_181)
      refine own_Goes.step st163 ?_
      have f164 := f50.wr W163
      have f165 := f51.other W163 (Or.inr (slot_ne (Or.inr (own_at hw 133 rfl)) (Or.inr (own_at hw 141 rfl)) (by decide) (t := (.array .long)) (t' := .long) (by decide) (by decide)))
      have f166 := f52.other W163 (Or.inr (slot_ne (Or.inr (own_at hw 135 rfl)) (Or.inr (own_at hw 141 rfl)) (by decide) (t := (.array .long)) (t' := .long) (by decide) (by decide)))
      have f167 := f53.other W163 (Or.inr (slot_ne (Or.inr (own_at hw 137 rfl)) (Or.inr (own_at hw 141 rfl)) (by decide) (t := .long) (t' := .long) (by decide) (by decide)))
      have f168 := f54.other W163 (Or.inr (slot_ne (Or.inr (own_at hw 139 rfl)) (Or.inr (own_at hw 141 rfl)) (by decide) (t := (.array .boolean)) (t' := .long) (by decide) (by decide)))
      have f169 := f55.same W163
      have f170 := f56.other W163 (Or.inr (slot_ne (Or.inr (own_at hw 143 rfl)) (Or.inr (own_at hw 141 rfl)) (by decide) (t := .int) (t' := .long) (by decide) (by decide)))
      have f171 := f57.other W163 (Or.inr (slot_ne (Or.inr (own_at hw 180 rfl)) (Or.inr (own_at hw 141 rfl)) (by decide) (t := (.object "java/util/Optional")) (t' := .long) (by decide) (by decide)))
      have f172 := f58.other W163 (Ne.symm s1)
      have f173 := f59.other W163 (Ne.symm s2)
      have K174 := K60.wr W163 (Or.inl (List.mem_of_getElem? (i := 0) rfl))
      have N175 := Fr.snoc X163 N61 g0
      have Z176 : n0 ≤ h163.size := Nat.le_trans Z62 (Keep.of_wr W163).1
      show own_Goes _ _ _ _ _ _ _ (T163.setTop (mkF m 184 #[.val (.ref x0), .val (.ref x1), .val .null, .val (.long x3), .second, .val (.ref x4), .val (.int (1 : Int32)), .val (.long (x3 * ((1 : Int32).toInt64))), .second, .val (.int (1 : Int32)), .val (.int (1 : Int32))] []))
      refine own_Goes.step (fun tq kq => XS.aloadN X163.here hx rfl (hb hby d21_184) rfl rfl kq) ?_
      show own_Goes _ _ _ _ _ _ _ (T163.setTop (mkF m 185 #[.val (.ref x0), .val (.ref x1), .val .null, .val (.long x3), .second, .val (.ref x4), .val (.int (1 : Int32)), .val (.long (x3 * ((1 : Int32).toInt64))), .second, .val (.int (1 : Int32)), .val (.int (1 : Int32))] [(.ref x0)]))
      refine own_Goes.step (fun tq kq => XS.iload X163.here hx rfl (hb hby d21_185) rfl kq) ?_
      show own_Goes _ _ _ _ _ _ _ (T163.setTop (mkF m 187 #[.val (.ref x0), .val (.ref x1), .val .null, .val (.long x3), .second, .val (.ref x4), .val (.int (1 : Int32)), .val (.long (x3 * ((1 : Int32).toInt64))), .second, .val (.int (1 : Int32)), .val (.int (1 : Int32))] [(.int (1 : Int32)), (.ref x0)]))
      obtain ⟨T177, h177, X177, e177, W177, st177⟩ := putF X163 hx hZ hown (host := "") (Or.inl (own_at hw 142 rfl)) Via.refl e163 (v := (.int (1 : Int32))) f170 f164 (Or.inr ⟨(own_at hw 143 rfl), rfl, hnm⟩) (own_at hw 127 rfl) (ty := .int) (by decide) rfl rfl (g := (mkF m 187 #[.val (.ref x0), .val (.ref x1), .val .null, .val (.long x3), .second, .val (.ref x4), .val (.int (1 : Int32)), .val (.long (x3 * ((1 : Int32).toInt64))), .second, .val (.int (1 : Int32)), .val (.int (1 : Int32))] [(.int (1 : Int32)), (.ref x0)])) rfl rfl (hb hby d21_187)
      refine own_Goes.step st177 ?_
      have f178 := f164.wr W177
      have f179 := f165.other W177 (Or.inr (slot_ne (Or.inr (own_at hw 133 rfl)) (Or.inr (own_at hw 143 rfl)) (by decide) (t := (.array .long)) (t' := .int) (by decide) (by decide)))
      have f180 := f166.other W177 (Or.inr (slot_ne (Or.inr (own_at hw 135 rfl)) (Or.inr (own_at hw 143 rfl)) (by decide) (t := (.array .long)) (t' := .int) (by decide) (by decide)))
      have f181 := f167.other W177 (Or.inr (slot_ne (Or.inr (own_at hw 137 rfl)) (Or.inr (own_at hw 143 rfl)) (by decide) (t := .long) (t' := .int) (by decide) (by decide)))
      have f182 := f168.other W177 (Or.inr (slot_ne (Or.inr (own_at hw 139 rfl)) (Or.inr (own_at hw 143 rfl)) (by decide) (t := (.array .boolean)) (t' := .int) (by decide) (by decide)))
      have f183 := f169.other W177 (Or.inr (slot_ne (Or.inr (own_at hw 141 rfl)) (Or.inr (own_at hw 143 rfl)) (by decide) (t := .long) (t' := .int) (by decide) (by decide)))
      have f184 := f170.same W177
      have f185 := f171.other W177 (Or.inr (slot_ne (Or.inr (own_at hw 180 rfl)) (Or.inr (own_at hw 143 rfl)) (by decide) (t := (.object "java/util/Optional")) (t' := .int) (by decide) (by decide)))
      have f186 := f172.other W177 (Ne.symm s1)
      have f187 := f173.other W177 (Ne.symm s2)
      have K188 := K174.wr W177 (Or.inl (List.mem_of_getElem? (i := 0) rfl))
      have N189 := Fr.snoc X177 N175 g0
      have Z190 : n0 ≤ h177.size := Nat.le_trans Z176 (Keep.of_wr W177).1
      show own_Goes _ _ _ _ _ _ _ (T177.setTop (mkF m 190 #[.val (.ref x0), .val (.ref x1), .val .null, .val (.long x3), .second, .val (.ref x4), .val (.int (1 : Int32)), .val (.long (x3 * ((1 : Int32).toInt64))), .second, .val (.int (1 : Int32)), .val (.int (1 : Int32))] []))
      refine own_Goes.step (fun tq kq => XS.aloadN X177.here hx rfl (hb hby d21_190) rfl rfl kq) ?_
      show own_Goes _ _ _ _ _ _ _ (T177.setTop (mkF m 191 #[.val (.ref x0), .val (.ref x1), .val .null, .val (.long x3), .second, .val (.ref x4), .val (.int (1 : Int32)), .val (.long (x3 * ((1 : Int32).toInt64))), .second, .val (.int (1 : Int32)), .val (.int (1 : Int32))] [(.ref x0)]))
      refine own_Goes.step (fun tq kq => XS.iload X177.here hx rfl (hb hby d21_191) rfl kq) ?_
      show own_Goes _ _ _ _ _ _ _ (T177.setTop (mkF m 193 #[.val (.ref x0), .val (.ref x1), .val .null, .val (.long x3), .second, .val (.ref x4), .val (.int (1 : Int32)), .val (.long (x3 * ((1 : Int32).toInt64))), .second, .val (.int (1 : Int32)), .val (.int (1 : Int32))] [(.int (1 : Int32)), (.ref x0)]))
      refine own_Goes.step (fun tq kq => XS.ifYes X177.here hx rfl (pc0 := 193) (pc' := 202) rfl (hb hby d21_193) rfl (XT.i0_ne_t (by decide)) (by decide) (by decide) kq) ?_
      show own_Goes _ _ _ _ _ _ _ (T177.setTop (mkF m 202 #[.val (.ref x0), .val (.ref x1), .val .null, .val (.long x3), .second, .val (.ref x4), .val (.int (1 : Int32)), .val (.long (x3 * ((1 : Int32).toInt64))), .second, .val (.int (1 : Int32)), .val (.int (1 : Int32))] [(.ref x0)]))
      obtain ⟨T191, h191, X191, e191, E191, A191, D191, -, st191⟩ := newO X177 hx hZ hown (own_at hw 144 rfl) (own_at hw 145 rfl) (own_at hw 146 rfl) e177 (g := (mkF m 202 #[.val (.ref x0), .val (.ref x1), .val .null, .val (.long x3), .second, .val (.ref x4), .val (.int (1 : Int32)), .val (.long (x3 * ((1 : Int32).toInt64))), .second, .val (.int (1 : Int32)), .val (.int (1 : Int32))] [(.ref x0)])) rfl (hb hby d21_202) (by decide) (by decide)
      obtain ⟨a191, g191⟩ : ∃ z, z = h177.size := ⟨_, rfl⟩
      rw [← g191] at A191 D191 st191
      have ne192 : x0 ≠ a191 := by rw [g191]; exact Nat.ne_of_lt f178.lt
      have ne193 : x1 ≠ a191 := by rw [g191]; exact Nat.ne_of_lt f186.lt
      have ne194 : x4 ≠ a191 := by rw [g191]; exact Nat.ne_of_lt f187.lt
      have f195 := Jvm.RoadKit.Exa.ext E191 f178
      have f196 := Jvm.RoadKit.Fld.ext E191 f179
      have f197 := Jvm.RoadKit.Fld.ext E191 f180
      have f198 := Jvm.RoadKit.Fld.ext E191 f181
      have f199 := Jvm.RoadKit.Fld.ext E191 f182
      have f200 := Jvm.RoadKit.Fld.ext E191 f183
      have f201 := Jvm.RoadKit.Fld.ext E191 f184
      have f202 := Jvm.RoadKit.Fld.ext E191 f185
      have f203 := f186.ext E191
      have f204 := f187.ext E191
      have f205 : Fld Z h191 a191 "com/example/strati/strati/model/KeyRange" "min" "J" (.long (0 : Int64)) := D191 (Or.inr (own_at hw 159 rfl)) (ty := .long) (by decide)
      have f206 : Fld Z h191 a191 "com/example/strati/strati/model/KeyRange" "max" "J" (.long (0 : Int64)) := D191 (Or.inr (own_at hw 161 rfl)) (ty := .long) (by decide)
      have ga191 : n0 ≤ a191 := Nat.le_trans Z190 (Nat.le_of_eq g191.symm)
      have Z191 : n0 ≤ h191.size := Nat.le_trans Z190 E191.1
      have K191 := K188.ext E191
      have Kh191 : h0.size ≤ a191 := Nat.le_trans K188.1 (Nat.le_of_eq g191.symm)
      refine own_Goes.step st191 ?_
      show own_Goes _ _ _ _ _ _ _ (T191.setTop (mkF m 205 #[.val (.ref x0), .val (.ref x1), .val .null, .val (.long x3), .second, .val (.ref x4), .val (.int (1 : Int32)), .val (.long (x3 * ((1 : Int32).toInt64))), .second, .val (.int (1 : Int32)), .val (.int (1 : Int32))] [(.ref a191), (.ref x0)]))
      refine own_Goes.step (fun tq kq => XS.dup X191.here hx rfl (hb hby d21_205) rfl rfl kq) ?_
      show own_Goes _ _ _ _ _ _ _ (T191.setTop (mkF m 206 #[.val (.ref x0), .val (.ref x1), .val .null, .val (.long x3), .second, .val (.ref x4), .val (.int (1 : Int32)), .val (.long (x3 * ((1 : Int32).toInt64))), .second, .val (.int (1 : Int32)), .val (.int (1 : Int32))] [(.ref a191), (.ref a191), (.ref x0)]))
      refine own_Goes.step (fun tq kq => XS.aloadN X191.here hx rfl (hb hby d21_206) rfl rfl kq) ?_
      show own_Goes _ _ _ _ _ _ _ (T191.setTop (mkF m 207 #[.val (.ref x0), .val (.ref x1), .val .null, .val (.long x3), .second, .val (.ref x4), .val (.int (1 : Int32)), .val (.long (x3 * ((1 : Int32).toInt64))), .second, .val (.int (1 : Int32)), .val (.int (1 : Int32))] [(.ref x1), (.ref a191), (.ref a191), (.ref x0)]))
      refine own_Goes.step (fun tq kq => XT.iconstV X191.here hx rfl (0 : Int32) (hb hby d21_207) (by decide) kq) ?_
      show own_Goes _ _ _ _ _ _ _ (T191.setTop (mkF m 208 #[.val (.ref x0), .val (.ref x1), .val .null, .val (.long x3), .second, .val (.ref x4), .val (.int (1 : Int32)), .val (.long (x3 * ((1 : Int32).toInt64))), .second, .val (.int (1 : Int32)), .val (.int (1 : Int32))] [(.int (0 : Int32)), (.ref x1), (.ref a191), (.ref a191), (.ref x0)]))
      refine own_Goes.step (own_lald X191 hx hZ e191 f203 (i := 0) rfl (by decide) (v := (.long (KB 0))) rfl (g := (mkF m 208 #[.val (.ref x0), .val (.ref x1), .val .null, .val (.long x3), .second, .val (.ref x4), .val (.int (1 : Int32)), .val (.long (x3 * ((1 : Int32).toInt64))), .second, .val (.int (1 : Int32)), .val (.int (1 : Int32))] [(.int (0 : Int32)), (.ref x1), (.ref a191), (.ref a191), (.ref x0)])) rfl rfl (hb hby d21_208)) ?_
      show own_Goes _ _ _ _ _ _ _ (T191.setTop (mkF m 209 #[.val (.ref x0), .val (.ref x1), .val .null, .val (.long x3), .second, .val (.ref x4), .val (.int (1 : Int32)), .val (.long (x3 * ((1 : Int32).toInt64))), .second, .val (.int (1 : Int32)), .val (.int (1 : Int32))] [(.long (KB 0)), (.ref a191), (.ref a191), (.ref x0)]))
      refine own_Goes.step (fun tq kq => XS.aloadN X191.here hx rfl (hb hby d21_209) rfl rfl kq) ?_
      show own_Goes _ _ _ _ _ _ _ (T191.setTop (mkF m 210 #[.val (.ref x0), .val (.ref x1), .val .null, .val (.long x3), .second, .val (.ref x4), .val (.int (1 : Int32)), .val (.long (x3 * ((1 : Int32).toInt64))), .second, .val (.int (1 : Int32)), .val (.int (1 : Int32))] [(.ref x1), (.long (KB 0)), (.ref a191), (.ref a191), (.ref x0)]))
      refine own_Goes.step (fun tq kq => XS.iload X191.here hx rfl (hb hby d21_210) rfl kq) ?_
      show own_Goes _ _ _ _ _ _ _ (T191.setTop (mkF m 212 #[.val (.ref x0), .val (.ref x1), .val .null, .val (.long x3), .second, .val (.ref x4), .val (.int (1 : Int32)), .val (.long (x3 * ((1 : Int32).toInt64))), .second, .val (.int (1 : Int32)), .val (.int (1 : Int32))] [(.int (1 : Int32)), (.ref x1), (.long (KB 0)), (.ref a191), (.ref a191), (.ref x0)]))
      refine own_Goes.step (fun tq kq => XT.iconstV X191.here hx rfl (1 : Int32) (hb hby d21_212) (by decide) kq) ?_
      show own_Goes _ _ _ _ _ _ _ (T191.setTop (mkF m 213 #[.val (.ref x0), .val (.ref x1), .val .null, .val (.long x3), .second, .val (.ref x4), .val (.int (1 : Int32)), .val (.long (x3 * ((1 : Int32).toInt64))), .second, .val (.int (1 : Int32)), .val (.int (1 : Int32))] [(.int (1 : Int32)), (.int (1 : Int32)), (.ref x1), (.long (KB 0)), (.ref a191), (.ref a191), (.ref x0)]))
      refine own_Goes.step (fun tq kq => XS.isub X191.here hx rfl (hb hby d21_213) rfl kq) ?_
      show own_Goes _ _ _ _ _ _ _ (T191.setTop (mkF m 214 #[.val (.ref x0), .val (.ref x1), .val .null, .val (.long x3), .second, .val (.ref x4), .val (.int (1 : Int32)), .val (.long (x3 * ((1 : Int32).toInt64))), .second, .val (.int (1 : Int32)), .val (.int (1 : Int32))] [(.int (0 : Int32)), (.ref x1), (.long (KB 0)), (.ref a191), (.ref a191), (.ref x0)]))
      refine own_Goes.step (own_lald X191 hx hZ e191 f203 (i := 0) rfl (by decide) (v := (.long (KB 0))) rfl (g := (mkF m 214 #[.val (.ref x0), .val (.ref x1), .val .null, .val (.long x3), .second, .val (.ref x4), .val (.int (1 : Int32)), .val (.long (x3 * ((1 : Int32).toInt64))), .second, .val (.int (1 : Int32)), .val (.int (1 : Int32))] [(.int (0 : Int32)), (.ref x1), (.long (KB 0)), (.ref a191), (.ref a191), (.ref x0)])) rfl rfl (hb hby d21_214)) ?_
      show own_Goes _ _ _ _ _ _ _ (T191.setTop (mkF m 215 #[.val (.ref x0), .val (.ref x1), .val .null, .val (.long x3), .second, .val (.ref x4), .val (.int (1 : Int32)), .val (.long (x3 * ((1 : Int32).toInt64))), .second, .val (.int (1 : Int32)), .val (.int (1 : Int32))] [(.long (KB 0)), (.long (KB 0)), (.ref a191), (.ref a191), (.ref x0)]))
      obtain ⟨w210, T210, L210, q210, Y210, st210⟩ := own_spec X191 hx hZ e191 rfl hown (own_at hw 147 rfl) (own_at hw 148 rfl) (own_at hw 146 rfl) (own_at hw 149 rfl) (by decide) (own_m22 l Z a0 hw [] a191 (KB 0) (KB 0) n0 h191 A191 ga191 f205 f206 (own_cmp0 _) ) (by decide) (W := 2) (by decide) (by decide) (by decide) (g := (mkF m 215 #[.val (.ref x0), .val (.ref x1), .val .null, .val (.long x3), .second, .val (.ref x4), .val (.int (1 : Int32)), .val (.long (x3 * ((1 : Int32).toInt64))), .second, .val (.int (1 : Int32)), .val (.int (1 : Int32))] [(.long (KB 0)), (.long (KB 0)), (.ref a191), (.ref a191), (.ref x0)])) rfl (by rw [hml]; rfl) (a := a191) (argsL := [(.long (KB 0)), (.long (KB 0))]) (rest := [(.ref a191), (.ref x0)]) (lenOf pd_22 rfl) rfl (by show 2 * 0 + _ ≤ _; exact Nat.le_of_eq rfl) (hb hby d21_215)
      obtain ⟨rfl, N210, K210, E210, c210_0, c210_1⟩ := q210
      have f211 := f195.keep K210
      have f212 := f196.keep K210 (own_nin ne192)
      have f213 := f197.keep K210 (own_nin ne192)
      have f214 := f198.keep K210 (own_nin ne192)
      have f215 := f199.keep K210 (own_nin ne192)
      have f216 := f200.keep K210 (own_nin ne192)
      have f217 := f201.keep K210 (own_nin ne192)
      have f218 := f202.keep K210 (own_nin ne192)
      have f219 := f203.keep K210 (own_nin ne193)
      have f220 := f204.keep K210 (own_nin ne194)
      have N224 := Fr.app N189 N210
      have Z225 : n0 ≤ T210.heap.size := Nat.le_trans Z191 K210.1
      have K226 := K191.trans K210 (own_kt (Or.inr Kh191))
      refine own_Goes.step st210 ?_
      show own_Goes _ _ _ _ _ _ _ (T210.setTop (mkF m 218 #[.val (.ref x0), .val (.ref x1), .val .null, .val (.long x3), .second, .val (.ref x4), .val (.int (1 : Int32)), .val (.long (x3 * ((1 : Int32).toInt64))), .second, .val (.int (1 : Int32)), .val (.int (1 : Int32))] [(.ref a191), (.ref x0)]))
      obtain ⟨w227, T227, L227, q227, Y227, st227⟩ := own_stat Y210 hx hZ rfl hown (own_at hw 162 rfl) (own_at hw 163 rfl) (own_at hw 164 rfl) (own_at hw 165 rfl) (by decide) (own_m25 l Z a0 hw [] a191 n0 T210.heap Z225) (by decide) (W := 1) (by decide) (by decide) (by decide) (g := (mkF m 218 #[.val (.ref x0), .val (.ref x1), .val .null, .val (.long x3), .second, .val (.ref x4), .val (.int (1 : Int32)), .val (.long (x3 * ((1 : Int32).toInt64))), .second, .val (.int (1 : Int32)), .val (.int (1 : Int32))] [(.ref a191), (.ref x0)])) rfl (by rw [hml]; rfl) (argsL := [(.ref a191)]) (rest := [(.ref x0)]) (lenOf pd_25 rfl) rfl (by show 2 * 0 + _ ≤ _; exact Nat.le_of_eq rfl) (hb hby d21_218)
      obtain ⟨o227, rfl, N227, K227⟩ := q227
      have Nn227 := Fr.app N224 N227
      have Kn227 := K226.trans K227 (fun x hx => by cases hx)
      have Zn227 : n0 ≤ T227.heap.size := Nat.le_trans Z225 K227.1
      have f228 := f211.keep K227
      have f229 := f212.keep K227 (fun q => by cases q)
      have f230 := f213.keep K227 (fun q => by cases q)
      have f231 := f214.keep K227 (fun q => by cases q)
      have f232 := f215.keep K227 (fun q => by cases q)
      have f233 := f216.keep K227 (fun q => by cases q)
      have f234 := f217.keep K227 (fun q => by cases q)
      have f235 := f218.keep K227 (fun q => by cases q)
      have f236 := f219.keep K227 (fun q => by cases q)
      have f237 := f220.keep K227 (fun q => by cases q)
      have f238 := E210.keep K227
      have f239 := c210_0.keep K227 (fun q => by cases q)
      have f240 := c210_1.keep K227 (fun q => by cases q)
      refine own_Goes.step st227 ?_
      show own_Goes _ _ _ _ _ _ _ (T227.setTop (mkF m 221 #[.val (.ref x0), .val (.ref x1), .val .null, .val (.long x3), .second, .val (.ref x4), .val (.int (1 : Int32)), .val (.long (x3 * ((1 : Int32).toInt64))), .second, .val (.int (1 : Int32)), .val (.int (1 : Int32))] [(.ref o227), (.ref x0)]))
      obtain ⟨T241, h241, X241, e241, W241, st241⟩ := putF Y227 hx hZ hown (host := "") (Or.inl (own_at hw 179 rfl)) Via.refl rfl (v := (.ref o227)) f235 f228 (Or.inr ⟨(own_at hw 180 rfl), rfl, hnm⟩) (own_at hw 127 rfl) (ty := (.object "java/util/Optional")) (by decide) rfl rfl (g := (mkF m 221 #[.val (.ref x0), .val (.ref x1), .val .null, .val (.long x3), .second, .val (.ref x4), .val (.int (1 : Int32)), .val (.long (x3 * ((1 : Int32).toInt64))), .second, .val (.int (1 : Int32)), .val (.int (1 : Int32))] [(.ref o227), (.ref x0)])) rfl rfl (hb hby d21_221)
      refine own_Goes.step st241 ?_
      have f242 := f228.wr W241
      have f243 := f229.other W241 (Or.inr (slot_ne (Or.inr (own_at hw 133 rfl)) (Or.inr (own_at hw 180 rfl)) (by decide) (t := (.array .long)) (t' := (.object "java/util/Optional")) (by decide) (by decide)))
      have f244 := f230.other W241 (Or.inr (slot_ne (Or.inr (own_at hw 135 rfl)) (Or.inr (own_at hw 180 rfl)) (by decide) (t := (.array .long)) (t' := (.object "java/util/Optional")) (by decide) (by decide)))
      have f245 := f231.other W241 (Or.inr (slot_ne (Or.inr (own_at hw 137 rfl)) (Or.inr (own_at hw 180 rfl)) (by decide) (t := .long) (t' := (.object "java/util/Optional")) (by decide) (by decide)))
      have f246 := f232.other W241 (Or.inr (slot_ne (Or.inr (own_at hw 139 rfl)) (Or.inr (own_at hw 180 rfl)) (by decide) (t := (.array .boolean)) (t' := (.object "java/util/Optional")) (by decide) (by decide)))
      have f247 := f233.other W241 (Or.inr (slot_ne (Or.inr (own_at hw 141 rfl)) (Or.inr (own_at hw 180 rfl)) (by decide) (t := .long) (t' := (.object "java/util/Optional")) (by decide) (by decide)))
      have f248 := f234.other W241 (Or.inr (slot_ne (Or.inr (own_at hw 143 rfl)) (Or.inr (own_at hw 180 rfl)) (by decide) (t := .int) (t' := (.object "java/util/Optional")) (by decide) (by decide)))
      have f249 := f235.same W241
      have f250 := f236.other W241 (Ne.symm s1)
      have f251 := f237.other W241 (Ne.symm s2)
      have f252 := f238.wr W241
      have f253 := f239.other W241 (Or.inl (Ne.symm ne192))
      have f254 := f240.other W241 (Or.inl (Ne.symm ne192))
      have K255 := Kn227.wr W241 (Or.inl (List.mem_of_getElem? (i := 0) rfl))
      have N256 := Fr.snoc X241 Nn227 g0
      have Z257 : n0 ≤ h241.size := Nat.le_trans Zn227 (Keep.of_wr W241).1
      show own_Goes _ _ _ _ _ _ _ (T241.setTop (mkF m 224 #[.val (.ref x0), .val (.ref x1), .val .null, .val (.long x3), .second, .val (.ref x4), .val (.int (1 : Int32)), .val (.long (x3 * ((1 : Int32).toInt64))), .second, .val (.int (1 : Int32)), .val (.int (1 : Int32))] []))
      refine own_endV X241 hx Bd.notSynchronized Bd.returns (hb hby d21_224) ?_ (by decide) (by decide)
      show own_F21o Z x0 x1 x3 x4 KB DD n0 h0 _ T241.heap _
      rw [e241]
      exact ⟨rfl, N256, K255, f242, f243, f247, f250⟩
  obtain ⟨t2, o2, q1, q2, q3, q4⟩ := hgo
  exact ⟨t2, o2, castTop (ef_21o m x0 x1 x3 x4) q1, q2, q3, q4⟩
theorem d20_0 : decode prog_49_method_2_code 0 = .ok (.new 14, 3) := by decide +kernel
theorem d20_3 : decode prog_49_method_2_code 3 = .ok (.dup, 1) := by decide +kernel
theorem d20_4 : decode prog_49_method_2_code 4 = .ok (.aload_n 0, 1) := by decide +kernel
theorem d20_5 : decode prog_49_method_2_code 5 = .ok (.aload_n 1, 1) := by decide +kernel
theorem d20_6 : decode prog_49_method_2_code 6 = .ok (.lload_n 2, 1) := by decide +kernel
theorem d20_7 : decode prog_49_method_2_code 7 = .ok (.aload 4, 2) := by decide +kernel
theorem d20_9 : decode prog_49_method_2_code 9 = .ok (.iload 5, 2) := by decide +kernel
theorem d20_11 : decode prog_49_method_2_code 11 = .ok (.invokespecial 59, 3) := by decide +kernel
theorem d20_14 : decode prog_49_method_2_code 14 = .ok (.areturn, 1) := by decide +kernel
theorem pn_20 : plainName "com/example/strati/strati/sim/RunEntries" = true := by first | (simp [plainName, overriddenIn]; done) | decide +kernel
theorem pd_20 : parseMethodDescriptor "([J[JJ[ZI)Lcom/example/strati/strati/sim/RunEntries;" = some ⟨[(.array .long), (.array .long), .long, (.array .boolean), .int], (some (.object "com/example/strati/strati/sim/RunEntries"))⟩ := by decide +kernel
theorem ef_20z (m : MethodId) (x0 : Addr) (x2 : Int64) : entryFrame m #[(.ref x0), .null, (.long x2), .null, (.int (1 : Int32))] 6 = mkF m 0 #[.val (.ref x0), .val .null, .val (.long x2), .second, .val .null, .val (.int (1 : Int32))] [] := by first | (simp [entryFrame, mkF, argsToLocals, Value.category]; done) | rfl
def own_F20z (Z : State) (x0 : Addr) (x2 : Int64) (KB : Nat → Int64) (n0 : Nat) (h0 : Heap) (v : Option Value) (h : Heap) (L : List Loc) : Prop := ∃ r, v = some (.ref r) ∧ Fr n0 L ∧ Exa Z h r "com/example/strati/strati/sim/RunEntries" ∧ Fld Z h r "com/example/strati/strati/sim/RunEntries" "keys" "[J" (.ref x0) ∧ Fld Z h r "com/example/strati/strati/sim/RunEntries" "size" "J" (.long (x2 * ((1 : Int32).toInt64))) ∧ own_Ar Z h x0 .long 1 (fun uu => .long (KB uu))
set_option maxRecDepth 65536 in
set_option maxHeartbeats 40000000 in
theorem own_m20z (l : Launch) (Z : State) (a0 : Array Value) (hw : ∀ d ∈ tables_1, d.before a0 Z = true) (ws : List Jvm.Cond) (x0 : Addr) (x2 : Int64) (KB : Nat → Int64) (n0 : Nat) (h0 : Heap)  (Z0 : n0 ≤ h0.size) (RK : own_Ar Z h0 x0 .long 1 (fun uu => .long (KB uu))) :
    MetFree l (⟨"com/example/strati/strati/sim/RunEntries", "inKeyOrder", "([J[JJ[ZI)Lcom/example/strati/strati/sim/RunEntries;"⟩ : MethodName) (head1 (Jvm.Cond.code (⟨"com/example/strati/strati/sim/RunEntries", "inKeyOrder", "([J[JJ[ZI)Lcom/example/strati/strati/sim/RunEntries;"⟩ : MethodName) prog_49_method_2_code 6 (some (.object "com/example/strati/strati/sim/RunEntries")) :: ws) ({ frames := 4, cells := 3, slots := 10, locals := 71 } : Room)) (fun a U => a = #[(.ref x0), .null, (.long x2), .null, (.int (1 : Int32))] ∧ Z.Warmed39 U.vm ∧ U.heap = h0) (fun _ _ _ _ _ => True) (fun _ U o U' => ∃ v L, o = .returned v ∧ own_F20z Z x0 x2 KB n0 h0 v U'.heap L ∧ FrameEnd U o U' L ({ frames := 4, cells := 3, slots := 10, locals := 71 } : Room).cells ({ frames := 4, cells := 3, slots := 10, locals := 71 } : Room).slots) := by
  refine MetFree.of_bodySF (plainFor_of_name pn_20) hisR ?_
  intro p e s m args below meth c s₁ Bd hml0 hP hK
  obtain ⟨rfl, hZ, hh⟩ := hP
  have hx := Bd.exec
  have hby := Bd.bytes
  have hml : c.maxLocals = 6 := hml0
  have hown : s.vm.findClass "com/example/strati/strati/sim/RunEntries" = some m.cls := findClass_of_methodNamed Bd.named
  have hnm := (name_of_methodNamed Bd.named Bd.method).1
  have X0 : Stand p l e ({ frames := 4, cells := 3, slots := 10, locals := 71 } : Room) s m #[(.ref x0), .null, (.long x2), .null, (.int (1 : Int32))] below meth c s₁ [] 0 0 := Stand.of_body Bd
  have e0 : s₁.heap = h0 := by rw [← hh, Bd.state]; rfl
  have N0 := Fr.nil n0
  have K0 : Keep h0 h0 [] := Keep.refl h0 []
  have hgo : own_Goes p e below s (own_F20z Z x0 x2 KB n0 h0) 3 10 (s₁.setTop (mkF m 0 #[.val (.ref x0), .val .null, .val (.long x2), .second, .val .null, .val (.int (1 : Int32))] [])) := by
    obtain ⟨T1, h1, X1, e1, E1, A1, D1, -, st1⟩ := newO X0 hx hZ hown (own_at hw 126 rfl) (own_at hw 127 rfl) (own_at hw 124 rfl) e0 (g := (mkF m 0 #[.val (.ref x0), .val .null, .val (.long x2), .second, .val .null, .val (.int (1 : Int32))] [])) rfl (hb hby d20_0) (by decide) (by decide)
    obtain ⟨a1, g1⟩ : ∃ z, z = h0.size := ⟨_, rfl⟩
    rw [← g1] at A1 D1 st1
    have ne2 : x0 ≠ a1 := by rw [g1]; exact Nat.ne_of_lt RK.lt
    have f3 := RK.ext E1
    have f4 : Fld Z h1 a1 "com/example/strati/strati/sim/RunEntries" "keys" "[J" .null := D1 (Or.inr (own_at hw 133 rfl)) (ty := (.array .long)) (by decide)
    have f5 : Fld Z h1 a1 "com/example/strati/strati/sim/RunEntries" "sizes" "[J" .null := D1 (Or.inr (own_at hw 135 rfl)) (ty := (.array .long)) (by decide)
    have f6 : Fld Z h1 a1 "com/example/strati/strati/sim/RunEntries" "entrySize" "J" (.long (0 : Int64)) := D1 (Or.inr (own_at hw 137 rfl)) (ty := .long) (by decide)
    have f7 : Fld Z h1 a1 "com/example/strati/strati/sim/RunEntries" "deletes" "[Z" .null := D1 (Or.inr (own_at hw 139 rfl)) (ty := (.array .boolean)) (by decide)
    have f8 : Fld Z h1 a1 "com/example/strati/strati/sim/RunEntries" "size" "J" (.long (0 : Int64)) := D1 (Or.inr (own_at hw 141 rfl)) (ty := .long) (by decide)
    have f9 : Fld Z h1 a1 "com/example/strati/strati/sim/RunEntries" "markers" "I" (.int (0 : Int32)) := D1 (Or.inr (own_at hw 143 rfl)) (ty := .int) (by decide)
    have f10 : Fld Z h1 a1 "com/example/strati/strati/sim/RunEntries" "keyRange" "Ljava/util/Optional;" .null := D1 (Or.inr (own_at hw 180 rfl)) (ty := (.object "java/util/Optional")) (by decide)
    have ga1 : n0 ≤ a1 := Nat.le_trans Z0 (Nat.le_of_eq g1.symm)
    have Z1 : n0 ≤ h1.size := Nat.le_trans Z0 E1.1
    have K1 := K0.ext E1
    have Kh1 : h0.size ≤ a1 := Nat.le_trans K0.1 (Nat.le_of_eq g1.symm)
    refine own_Goes.step st1 ?_
    show own_Goes _ _ _ _ _ _ _ (T1.setTop (mkF m 3 #[.val (.ref x0), .val .null, .val (.long x2), .second, .val .null, .val (.int (1 : Int32))] [(.ref a1)]))
    refine own_Goes.step (fun tq kq => XS.dup X1.here hx rfl (hb hby d20_3) rfl rfl kq) ?_
    show own_Goes _ _ _ _ _ _ _ (T1.setTop (mkF m 4 #[.val (.ref x0), .val .null, .val (.long x2), .second, .val .null, .val (.int (1 : Int32))] [(.ref a1), (.ref a1)]))
    refine own_Goes.step (fun tq kq => XS.aloadN X1.here hx rfl (hb hby d20_4) rfl rfl kq) ?_
    show own_Goes _ _ _ _ _ _ _ (T1.setTop (mkF m 5 #[.val (.ref x0), .val .null, .val (.long x2), .second, .val .null, .val (.int (1 : Int32))] [(.ref x0), (.ref a1), (.ref a1)]))
    refine own_Goes.step (fun tq kq => XS.aloadN X1.here hx rfl (hb hby d20_5) rfl rfl kq) ?_
    show own_Goes _ _ _ _ _ _ _ (T1.setTop (mkF m 6 #[.val (.ref x0), .val .null, .val (.long x2), .second, .val .null, .val (.int (1 : Int32))] [.null, (.ref x0), (.ref a1), (.ref a1)]))
    refine own_Goes.step (fun tq kq => XT.lloadN X1.here hx rfl (hb hby d20_6) rfl kq) ?_
    show own_Goes _ _ _ _ _ _ _ (T1.setTop (mkF m 7 #[.val (.ref x0), .val .null, .val (.long x2), .second, .val .null, .val (.int (1 : Int32))] [(.long x2), .null, (.ref x0), (.ref a1), (.ref a1)]))
    refine own_Goes.step (fun tq kq => XS.aload X1.here hx rfl (hb hby d20_7) rfl rfl kq) ?_
    show own_Goes _ _ _ _ _ _ _ (T1.setTop (mkF m 9 #[.val (.ref x0), .val .null, .val (.long x2), .second, .val .null, .val (.int (1 : Int32))] [.null, (.long x2), .null, (.ref x0), (.ref a1), (.ref a1)]))
    refine own_Goes.step (fun tq kq => XS.iload X1.here hx rfl (hb hby d20_9) rfl kq) ?_
    show own_Goes _ _ _ _ _ _ _ (T1.setTop (mkF m 11 #[.val (.ref x0), .val .null, .val (.long x2), .second, .val .null, .val (.int (1 : Int32))] [(.int (1 : Int32)), .null, (.long x2), .null, (.ref x0), (.ref a1), (.ref a1)]))
    obtain ⟨w12, T12, L12, q12, Y12, st12⟩ := own_spec X1 hx hZ e1 rfl hown (own_at hw 128 rfl) (own_at hw 129 rfl) (own_at hw 124 rfl) (own_at hw 130 rfl) (by decide) (own_m21z l Z a0 hw [] a1 x0 x2 KB n0 h1 A1 ga1 f4 f5 f6 f7 f8 f9 f10 f3 (Ne.symm ne2)) (by decide) (W := 1) (by decide) (by decide) (by decide) (g := (mkF m 11 #[.val (.ref x0), .val .null, .val (.long x2), .second, .val .null, .val (.int (1 : Int32))] [(.int (1 : Int32)), .null, (.long x2), .null, (.ref x0), (.ref a1), (.ref a1)])) rfl (by rw [hml]; rfl) (a := a1) (argsL := [(.ref x0), .null, (.long x2), .null, (.int (1 : Int32))]) (rest := [(.ref a1)]) (lenOf pd_21 rfl) rfl (by show 2 * 0 + _ ≤ _; exact Nat.le_of_eq rfl) (hb hby d20_11)
    obtain ⟨rfl, N12, K12, Er, Fk, Fs, Rk⟩ := q12
    have Nn12 := Fr.app N0 N12
    refine own_Goes.step st12 ?_
    show own_Goes _ _ _ _ _ _ _ (T12.setTop (mkF m 14 #[.val (.ref x0), .val .null, .val (.long x2), .second, .val .null, .val (.int (1 : Int32))] [(.ref a1)]))
    refine own_endA Y12 hx Bd.notSynchronized rfl Bd.returns rfl (hb hby d20_14) ?_ (by decide) (by decide)
    show own_F20z Z x0 x2 KB n0 h0 _ T12.heap _
    exact ⟨a1, rfl, Nn12, Er, Fk, Fs, Rk⟩
  obtain ⟨t2, o2, q1, q2, q3, q4⟩ := hgo
  exact ⟨t2, o2, castTop (ef_20z m x0 x2) q1, q2, q3, q4⟩
theorem ef_20o (m : MethodId) (x0 : Addr) (x2 : Int64) (x3 : Addr) : entryFrame m #[(.ref x0), .null, (.long x2), (.ref x3), (.int (1 : Int32))] 6 = mkF m 0 #[.val (.ref x0), .val .null, .val (.long x2), .second, .val (.ref x3), .val (.int (1 : Int32))] [] := by first | (simp [entryFrame, mkF, argsToLocals, Value.category]; done) | rfl
def own_F20o (Z : State) (x0 : Addr) (x2 : Int64) (x3 : Addr) (KB : Nat → Int64) (DD : Nat → Int32) (n0 : Nat) (h0 : Heap) (v : Option Value) (h : Heap) (L : List Loc) : Prop := ∃ r, v = some (.ref r) ∧ Fr n0 L ∧ Exa Z h r "com/example/strati/strati/sim/RunEntries" ∧ Fld Z h r "com/example/strati/strati/sim/RunEntries" "keys" "[J" (.ref x0) ∧ Fld Z h r "com/example/strati/strati/sim/RunEntries" "size" "J" (.long (x2 * ((1 : Int32).toInt64))) ∧ own_Ar Z h x0 .long 1 (fun uu => .long (KB uu))
set_option maxRecDepth 65536 in
set_option maxHeartbeats 40000000 in
theorem own_m20o (l : Launch) (Z : State) (a0 : Array Value) (hw : ∀ d ∈ tables_1, d.before a0 Z = true) (ws : List Jvm.Cond) (x0 : Addr) (x2 : Int64) (x3 : Addr) (KB : Nat → Int64) (DD : Nat → Int32) (n0 : Nat) (h0 : Heap)  (Z0 : n0 ≤ h0.size) (RK : own_Ar Z h0 x0 .long 1 (fun uu => .long (KB uu))) (RD : own_Ar Z h0 x3 .boolean 1 (fun uu => .int (DD uu))) :
    MetFree l (⟨"com/example/strati/strati/sim/RunEntries", "inKeyOrder", "([J[JJ[ZI)Lcom/example/strati/strati/sim/RunEntries;"⟩ : MethodName) (head1 (Jvm.Cond.code (⟨"com/example/strati/strati/sim/RunEntries", "inKeyOrder", "([J[JJ[ZI)Lcom/example/strati/strati/sim/RunEntries;"⟩ : MethodName) prog_49_method_2_code 6 (some (.object "com/example/strati/strati/sim/RunEntries")) :: ws) ({ frames := 4, cells := 3, slots := 10, locals := 71 } : Room)) (fun a U => a = #[(.ref x0), .null, (.long x2), (.ref x3), (.int (1 : Int32))] ∧ Z.Warmed39 U.vm ∧ U.heap = h0) (fun _ _ _ _ _ => True) (fun _ U o U' => ∃ v L, o = .returned v ∧ own_F20o Z x0 x2 x3 KB DD n0 h0 v U'.heap L ∧ FrameEnd U o U' L ({ frames := 4, cells := 3, slots := 10, locals := 71 } : Room).cells ({ frames := 4, cells := 3, slots := 10, locals := 71 } : Room).slots) := by
  refine MetFree.of_bodySF (plainFor_of_name pn_20) hisR ?_
  intro p e s m args below meth c s₁ Bd hml0 hP hK
  obtain ⟨rfl, hZ, hh⟩ := hP
  have hx := Bd.exec
  have hby := Bd.bytes
  have hml : c.maxLocals = 6 := hml0
  have hown : s.vm.findClass "com/example/strati/strati/sim/RunEntries" = some m.cls := findClass_of_methodNamed Bd.named
  have hnm := (name_of_methodNamed Bd.named Bd.method).1
  have X0 : Stand p l e ({ frames := 4, cells := 3, slots := 10, locals := 71 } : Room) s m #[(.ref x0), .null, (.long x2), (.ref x3), (.int (1 : Int32))] below meth c s₁ [] 0 0 := Stand.of_body Bd
  have e0 : s₁.heap = h0 := by rw [← hh, Bd.state]; rfl
  have N0 := Fr.nil n0
  have K0 : Keep h0 h0 [] := Keep.refl h0 []
  have hgo : own_Goes p e below s (own_F20o Z x0 x2 x3 KB DD n0 h0) 3 10 (s₁.setTop (mkF m 0 #[.val (.ref x0), .val .null, .val (.long x2), .second, .val (.ref x3), .val (.int (1 : Int32))] [])) := by
    obtain ⟨T1, h1, X1, e1, E1, A1, D1, -, st1⟩ := newO X0 hx hZ hown (own_at hw 126 rfl) (own_at hw 127 rfl) (own_at hw 124 rfl) e0 (g := (mkF m 0 #[.val (.ref x0), .val .null, .val (.long x2), .second, .val (.ref x3), .val (.int (1 : Int32))] [])) rfl (hb hby d20_0) (by decide) (by decide)
    obtain ⟨a1, g1⟩ : ∃ z, z = h0.size := ⟨_, rfl⟩
    rw [← g1] at A1 D1 st1
    have ne2 : x0 ≠ a1 := by rw [g1]; exact Nat.ne_of_lt RK.lt
    have ne3 : x3 ≠ a1 := by rw [g1]; exact Nat.ne_of_lt RD.lt
    have f4 := RK.ext E1
    have f5 := RD.ext E1
    have f6 : Fld Z h1 a1 "com/example/strati/strati/sim/RunEntries" "keys" "[J" .null := D1 (Or.inr (own_at hw 133 rfl)) (ty := (.array .long)) (by decide)
    have f7 : Fld Z h1 a1 "com/example/strati/strati/sim/RunEntries" "sizes" "[J" .null := D1 (Or.inr (own_at hw 135 rfl)) (ty := (.array .long)) (by decide)
    have f8 : Fld Z h1 a1 "com/example/strati/strati/sim/RunEntries" "entrySize" "J" (.long (0 : Int64)) := D1 (Or.inr (own_at hw 137 rfl)) (ty := .long) (by decide)
    have f9 : Fld Z h1 a1 "com/example/strati/strati/sim/RunEntries" "deletes" "[Z" .null := D1 (Or.inr (own_at hw 139 rfl)) (ty := (.array .boolean)) (by decide)
    have f10 : Fld Z h1 a1 "com/example/strati/strati/sim/RunEntries" "size" "J" (.long (0 : Int64)) := D1 (Or.inr (own_at hw 141 rfl)) (ty := .long) (by decide)
    have f11 : Fld Z h1 a1 "com/example/strati/strati/sim/RunEntries" "markers" "I" (.int (0 : Int32)) := D1 (Or.inr (own_at hw 143 rfl)) (ty := .int) (by decide)
    have f12 : Fld Z h1 a1 "com/example/strati/strati/sim/RunEntries" "keyRange" "Ljava/util/Optional;" .null := D1 (Or.inr (own_at hw 180 rfl)) (ty := (.object "java/util/Optional")) (by decide)
    have ga1 : n0 ≤ a1 := Nat.le_trans Z0 (Nat.le_of_eq g1.symm)
    have Z1 : n0 ≤ h1.size := Nat.le_trans Z0 E1.1
    have K1 := K0.ext E1
    have Kh1 : h0.size ≤ a1 := Nat.le_trans K0.1 (Nat.le_of_eq g1.symm)
    refine own_Goes.step st1 ?_
    show own_Goes _ _ _ _ _ _ _ (T1.setTop (mkF m 3 #[.val (.ref x0), .val .null, .val (.long x2), .second, .val (.ref x3), .val (.int (1 : Int32))] [(.ref a1)]))
    refine own_Goes.step (fun tq kq => XS.dup X1.here hx rfl (hb hby d20_3) rfl rfl kq) ?_
    show own_Goes _ _ _ _ _ _ _ (T1.setTop (mkF m 4 #[.val (.ref x0), .val .null, .val (.long x2), .second, .val (.ref x3), .val (.int (1 : Int32))] [(.ref a1), (.ref a1)]))
    refine own_Goes.step (fun tq kq => XS.aloadN X1.here hx rfl (hb hby d20_4) rfl rfl kq) ?_
    show own_Goes _ _ _ _ _ _ _ (T1.setTop (mkF m 5 #[.val (.ref x0), .val .null, .val (.long x2), .second, .val (.ref x3), .val (.int (1 : Int32))] [(.ref x0), (.ref a1), (.ref a1)]))
    refine own_Goes.step (fun tq kq => XS.aloadN X1.here hx rfl (hb hby d20_5) rfl rfl kq) ?_
    show own_Goes _ _ _ _ _ _ _ (T1.setTop (mkF m 6 #[.val (.ref x0), .val .null, .val (.long x2), .second, .val (.ref x3), .val (.int (1 : Int32))] [.null, (.ref x0), (.ref a1), (.ref a1)]))
    refine own_Goes.step (fun tq kq => XT.lloadN X1.here hx rfl (hb hby d20_6) rfl kq) ?_
    show own_Goes _ _ _ _ _ _ _ (T1.setTop (mkF m 7 #[.val (.ref x0), .val .null, .val (.long x2), .second, .val (.ref x3), .val (.int (1 : Int32))] [(.long x2), .null, (.ref x0), (.ref a1), (.ref a1)]))
    refine own_Goes.step (fun tq kq => XS.aload X1.here hx rfl (hb hby d20_7) rfl rfl kq) ?_
    show own_Goes _ _ _ _ _ _ _ (T1.setTop (mkF m 9 #[.val (.ref x0), .val .null, .val (.long x2), .second, .val (.ref x3), .val (.int (1 : Int32))] [(.ref x3), (.long x2), .null, (.ref x0), (.ref a1), (.ref a1)]))
    refine own_Goes.step (fun tq kq => XS.iload X1.here hx rfl (hb hby d20_9) rfl kq) ?_
    show own_Goes _ _ _ _ _ _ _ (T1.setTop (mkF m 11 #[.val (.ref x0), .val .null, .val (.long x2), .second, .val (.ref x3), .val (.int (1 : Int32))] [(.int (1 : Int32)), (.ref x3), (.long x2), .null, (.ref x0), (.ref a1), (.ref a1)]))
    obtain ⟨w14, T14, L14, q14, Y14, st14⟩ := own_spec X1 hx hZ e1 rfl hown (own_at hw 128 rfl) (own_at hw 129 rfl) (own_at hw 124 rfl) (own_at hw 130 rfl) (by decide) (own_m21o l Z a0 hw [] a1 x0 x2 x3 KB DD n0 h1 A1 ga1 f6 f7 f8 f9 f10 f11 f12 f4 (Ne.symm ne2) f5 (Ne.symm ne3)) (by decide) (W := 1) (by decide) (by decide) (by decide) (g := (mkF m 11 #[.val (.ref x0), .val .null, .val (.long x2), .second, .val (.ref x3), .val (.int (1 : Int32))] [(.int (1 : Int32)), (.ref x3), (.long x2), .null, (.ref x0), (.ref a1), (.ref a1)])) rfl (by rw [hml]; rfl) (a := a1) (argsL := [(.ref x0), .null, (.long x2), (.ref x3), (.int (1 : Int32))]) (rest := [(.ref a1)]) (lenOf pd_21 rfl) rfl (by show 2 * 0 + _ ≤ _; exact Nat.le_of_eq rfl) (hb hby d20_11)
    obtain ⟨rfl, N14, K14, Er, Fk, Fs, Rk⟩ := q14
    have Nn14 := Fr.app N0 N14
    refine own_Goes.step st14 ?_
    show own_Goes _ _ _ _ _ _ _ (T14.setTop (mkF m 14 #[.val (.ref x0), .val .null, .val (.long x2), .second, .val (.ref x3), .val (.int (1 : Int32))] [(.ref a1)]))
    refine own_endA Y14 hx Bd.notSynchronized rfl Bd.returns rfl (hb hby d20_14) ?_ (by decide) (by decide)
    show own_F20o Z x0 x2 x3 KB DD n0 h0 _ T14.heap _
    exact ⟨a1, rfl, Nn14, Er, Fk, Fs, Rk⟩
  obtain ⟨t2, o2, q1, q2, q3, q4⟩ := hgo
  exact ⟨t2, o2, castTop (ef_20o m x0 x2 x3) q1, q2, q3, q4⟩
theorem d15_0 : decode prog_67_method_6_code 0 = .ok (.aload_n 0, 1) := by decide +kernel
theorem d15_1 : decode prog_67_method_6_code 1 = .ok (.getfield 44, 3) := by decide +kernel
theorem d15_4 : decode prog_67_method_6_code 4 = .ok (.ifCond .ne 14, 3) := by decide +kernel
theorem d15_7 : decode prog_67_method_6_code 7 = .ok (.aload_n 0, 1) := by decide +kernel
theorem d15_8 : decode prog_67_method_6_code 8 = .ok (.getfield 48, 3) := by decide +kernel
theorem d15_11 : decode prog_67_method_6_code 11 = .ok (.ifCond .ne 7, 3) := by decide +kernel
theorem d15_14 : decode prog_67_method_6_code 14 = .ok (.iconst 1, 1) := by decide +kernel
theorem d15_15 : decode prog_67_method_6_code 15 = .ok (.goto 4, 3) := by decide +kernel
theorem d15_18 : decode prog_67_method_6_code 18 = .ok (.iconst 0, 1) := by decide +kernel
theorem d15_19 : decode prog_67_method_6_code 19 = .ok (.istore_n 1, 1) := by decide +kernel
theorem d15_20 : decode prog_67_method_6_code 20 = .ok (.iload_n 1, 1) := by decide +kernel
theorem d15_21 : decode prog_67_method_6_code 21 = .ok (.ifCond .ne 26, 3) := by decide +kernel
theorem d15_24 : decode prog_67_method_6_code 24 = .ok (.aload_n 0, 1) := by decide +kernel
theorem d15_25 : decode prog_67_method_6_code 25 = .ok (.getfield 20, 3) := by decide +kernel
theorem d15_28 : decode prog_67_method_6_code 28 = .ok (.arraylength, 1) := by decide +kernel
theorem d15_29 : decode prog_67_method_6_code 29 = .ok (.aload_n 0, 1) := by decide +kernel
theorem d15_30 : decode prog_67_method_6_code 30 = .ok (.getfield 28, 3) := by decide +kernel
theorem d15_33 : decode prog_67_method_6_code 33 = .ok (.if_icmp .ge 14, 3) := by decide +kernel
theorem d15_36 : decode prog_67_method_6_code 36 = .ok (.aload_n 0, 1) := by decide +kernel
theorem d15_37 : decode prog_67_method_6_code 37 = .ok (.aload_n 0, 1) := by decide +kernel
theorem d15_38 : decode prog_67_method_6_code 38 = .ok (.getfield 9, 3) := by decide +kernel
theorem d15_41 : decode prog_67_method_6_code 41 = .ok (.arraylength, 1) := by decide +kernel
theorem d15_42 : decode prog_67_method_6_code 42 = .ok (.newarray .int, 2) := by decide +kernel
theorem d15_44 : decode prog_67_method_6_code 44 = .ok (.putfield 20, 3) := by decide +kernel
theorem d15_47 : decode prog_67_method_6_code 47 = .ok (.aload_n 0, 1) := by decide +kernel
theorem d15_48 : decode prog_67_method_6_code 48 = .ok (.getfield 28, 3) := by decide +kernel
theorem d15_51 : decode prog_67_method_6_code 51 = .ok (.newarray .long, 2) := by decide +kernel
theorem d15_53 : decode prog_67_method_6_code 53 = .ok (.astore_n 2, 1) := by decide +kernel
theorem d15_54 : decode prog_67_method_6_code 54 = .ok (.aload_n 0, 1) := by decide +kernel
theorem d15_55 : decode prog_67_method_6_code 55 = .ok (.getfield 9, 3) := by decide +kernel
theorem d15_58 : decode prog_67_method_6_code 58 = .ok (.aload_n 0, 1) := by decide +kernel
theorem d15_59 : decode prog_67_method_6_code 59 = .ok (.getfield 28, 3) := by decide +kernel
theorem d15_62 : decode prog_67_method_6_code 62 = .ok (.aload_n 2, 1) := by decide +kernel
theorem d15_63 : decode prog_67_method_6_code 63 = .ok (.iload_n 1, 1) := by decide +kernel
theorem d15_64 : decode prog_67_method_6_code 64 = .ok (.ifCond .eq 7, 3) := by decide +kernel
theorem d15_67 : decode prog_67_method_6_code 67 = .ok (.aconst_null, 1) := by decide +kernel
theorem d15_68 : decode prog_67_method_6_code 68 = .ok (.goto 7, 3) := by decide +kernel
theorem d15_71 : decode prog_67_method_6_code 71 = .ok (.aload_n 0, 1) := by decide +kernel
theorem d15_72 : decode prog_67_method_6_code 72 = .ok (.getfield 20, 3) := by decide +kernel
theorem d15_75 : decode prog_67_method_6_code 75 = .ok (.invokestatic 72, 3) := by decide +kernel
theorem d15_78 : decode prog_67_method_6_code 78 = .ok (.aload_n 0, 1) := by decide +kernel
theorem d15_79 : decode prog_67_method_6_code 79 = .ok (.getfield 44, 3) := by decide +kernel
theorem d15_82 : decode prog_67_method_6_code 82 = .ok (.ifCond .eq 12, 3) := by decide +kernel
theorem d15_85 : decode prog_67_method_6_code 85 = .ok (.aload_n 0, 1) := by decide +kernel
theorem d15_86 : decode prog_67_method_6_code 86 = .ok (.getfield 28, 3) := by decide +kernel
theorem d15_89 : decode prog_67_method_6_code 89 = .ok (.newarray .long, 2) := by decide +kernel
theorem d15_91 : decode prog_67_method_6_code 91 = .ok (.goto 4, 3) := by decide +kernel
theorem d15_94 : decode prog_67_method_6_code 94 = .ok (.aconst_null, 1) := by decide +kernel
theorem d15_95 : decode prog_67_method_6_code 95 = .ok (.astore_n 3, 1) := by decide +kernel
theorem d15_96 : decode prog_67_method_6_code 96 = .ok (.aload_n 0, 1) := by decide +kernel
theorem d15_97 : decode prog_67_method_6_code 97 = .ok (.getfield 48, 3) := by decide +kernel
theorem d15_100 : decode prog_67_method_6_code 100 = .ok (.ifCond .eq 12, 3) := by decide +kernel
theorem d15_103 : decode prog_67_method_6_code 103 = .ok (.aload_n 0, 1) := by decide +kernel
theorem d15_104 : decode prog_67_method_6_code 104 = .ok (.getfield 28, 3) := by decide +kernel
theorem d15_107 : decode prog_67_method_6_code 107 = .ok (.newarray .boolean, 2) := by decide +kernel
theorem d15_109 : decode prog_67_method_6_code 109 = .ok (.goto 4, 3) := by decide +kernel
theorem d15_112 : decode prog_67_method_6_code 112 = .ok (.aconst_null, 1) := by decide +kernel
theorem d15_113 : decode prog_67_method_6_code 113 = .ok (.astore 4, 2) := by decide +kernel
theorem d15_115 : decode prog_67_method_6_code 115 = .ok (.iconst 0, 1) := by decide +kernel
theorem d15_116 : decode prog_67_method_6_code 116 = .ok (.istore 5, 2) := by decide +kernel
theorem d15_118 : decode prog_67_method_6_code 118 = .ok (.iconst 0, 1) := by decide +kernel
theorem d15_119 : decode prog_67_method_6_code 119 = .ok (.istore 6, 2) := by decide +kernel
theorem d15_121 : decode prog_67_method_6_code 121 = .ok (.iload 6, 2) := by decide +kernel
theorem d15_123 : decode prog_67_method_6_code 123 = .ok (.aload_n 0, 1) := by decide +kernel
theorem d15_124 : decode prog_67_method_6_code 124 = .ok (.getfield 28, 3) := by decide +kernel
theorem d15_127 : decode prog_67_method_6_code 127 = .ok (.if_icmp .ge 90, 3) := by decide +kernel
theorem d15_130 : decode prog_67_method_6_code 130 = .ok (.iload 6, 2) := by decide +kernel
theorem d15_132 : decode prog_67_method_6_code 132 = .ok (.iconst 1, 1) := by decide +kernel
theorem d15_133 : decode prog_67_method_6_code 133 = .ok (.iadd, 1) := by decide +kernel
theorem d15_134 : decode prog_67_method_6_code 134 = .ok (.aload_n 0, 1) := by decide +kernel
theorem d15_135 : decode prog_67_method_6_code 135 = .ok (.getfield 28, 3) := by decide +kernel
theorem d15_138 : decode prog_67_method_6_code 138 = .ok (.if_icmp .ge 20, 3) := by decide +kernel
theorem d15_141 : decode prog_67_method_6_code 141 = .ok (.aload_n 2, 1) := by decide +kernel
theorem d15_142 : decode prog_67_method_6_code 142 = .ok (.iload 6, 2) := by decide +kernel
theorem d15_144 : decode prog_67_method_6_code 144 = .ok (.iconst 1, 1) := by decide +kernel
theorem d15_145 : decode prog_67_method_6_code 145 = .ok (.iadd, 1) := by decide +kernel
theorem d15_146 : decode prog_67_method_6_code 146 = .ok (.laload, 1) := by decide +kernel
theorem d15_147 : decode prog_67_method_6_code 147 = .ok (.aload_n 2, 1) := by decide +kernel
theorem d15_148 : decode prog_67_method_6_code 148 = .ok (.iload 6, 2) := by decide +kernel
theorem d15_150 : decode prog_67_method_6_code 150 = .ok (.laload, 1) := by decide +kernel
theorem d15_151 : decode prog_67_method_6_code 151 = .ok (.lcmp, 1) := by decide +kernel
theorem d15_152 : decode prog_67_method_6_code 152 = .ok (.ifCond .ne 6, 3) := by decide +kernel
theorem d15_155 : decode prog_67_method_6_code 155 = .ok (.goto 56, 3) := by decide +kernel
theorem d15_158 : decode prog_67_method_6_code 158 = .ok (.aload_n 2, 1) := by decide +kernel
theorem d15_159 : decode prog_67_method_6_code 159 = .ok (.iload 5, 2) := by decide +kernel
theorem d15_161 : decode prog_67_method_6_code 161 = .ok (.aload_n 2, 1) := by decide +kernel
theorem d15_162 : decode prog_67_method_6_code 162 = .ok (.iload 6, 2) := by decide +kernel
theorem d15_164 : decode prog_67_method_6_code 164 = .ok (.laload, 1) := by decide +kernel
theorem d15_165 : decode prog_67_method_6_code 165 = .ok (.lastore, 1) := by decide +kernel
theorem d15_166 : decode prog_67_method_6_code 166 = .ok (.aload_n 3, 1) := by decide +kernel
theorem d15_167 : decode prog_67_method_6_code 167 = .ok (.ifnull 19, 3) := by decide +kernel
theorem d15_170 : decode prog_67_method_6_code 170 = .ok (.aload_n 3, 1) := by decide +kernel
theorem d15_171 : decode prog_67_method_6_code 171 = .ok (.iload 5, 2) := by decide +kernel
theorem d15_173 : decode prog_67_method_6_code 173 = .ok (.aload_n 0, 1) := by decide +kernel
theorem d15_174 : decode prog_67_method_6_code 174 = .ok (.getfield 13, 3) := by decide +kernel
theorem d15_177 : decode prog_67_method_6_code 177 = .ok (.aload_n 0, 1) := by decide +kernel
theorem d15_178 : decode prog_67_method_6_code 178 = .ok (.getfield 20, 3) := by decide +kernel
theorem d15_181 : decode prog_67_method_6_code 181 = .ok (.iload 6, 2) := by decide +kernel
theorem d15_183 : decode prog_67_method_6_code 183 = .ok (.iaload, 1) := by decide +kernel
theorem d15_184 : decode prog_67_method_6_code 184 = .ok (.laload, 1) := by decide +kernel
theorem d15_185 : decode prog_67_method_6_code 185 = .ok (.lastore, 1) := by decide +kernel
theorem d15_186 : decode prog_67_method_6_code 186 = .ok (.aload 4, 2) := by decide +kernel
theorem d15_188 : decode prog_67_method_6_code 188 = .ok (.ifnull 20, 3) := by decide +kernel
theorem d15_191 : decode prog_67_method_6_code 191 = .ok (.aload 4, 2) := by decide +kernel
theorem d15_193 : decode prog_67_method_6_code 193 = .ok (.iload 5, 2) := by decide +kernel
theorem d15_195 : decode prog_67_method_6_code 195 = .ok (.aload_n 0, 1) := by decide +kernel
theorem d15_196 : decode prog_67_method_6_code 196 = .ok (.getfield 16, 3) := by decide +kernel
theorem d15_199 : decode prog_67_method_6_code 199 = .ok (.aload_n 0, 1) := by decide +kernel
theorem d15_200 : decode prog_67_method_6_code 200 = .ok (.getfield 20, 3) := by decide +kernel
theorem d15_203 : decode prog_67_method_6_code 203 = .ok (.iload 6, 2) := by decide +kernel
theorem d15_205 : decode prog_67_method_6_code 205 = .ok (.iaload, 1) := by decide +kernel
theorem d15_206 : decode prog_67_method_6_code 206 = .ok (.baload, 1) := by decide +kernel
theorem d15_207 : decode prog_67_method_6_code 207 = .ok (.bastore, 1) := by decide +kernel
theorem d15_208 : decode prog_67_method_6_code 208 = .ok (.iinc 5 1, 3) := by decide +kernel
theorem d15_211 : decode prog_67_method_6_code 211 = .ok (.iinc 6 1, 3) := by decide +kernel
theorem d15_214 : decode prog_67_method_6_code 214 = .ok (.goto (-93), 3) := by decide +kernel
theorem d15_217 : decode prog_67_method_6_code 217 = .ok (.aload_n 2, 1) := by decide +kernel
theorem d15_218 : decode prog_67_method_6_code 218 = .ok (.aload_n 3, 1) := by decide +kernel
theorem d15_219 : decode prog_67_method_6_code 219 = .ok (.aload_n 0, 1) := by decide +kernel
theorem d15_220 : decode prog_67_method_6_code 220 = .ok (.getfield 40, 3) := by decide +kernel
theorem d15_223 : decode prog_67_method_6_code 223 = .ok (.aload 4, 2) := by decide +kernel
theorem d15_225 : decode prog_67_method_6_code 225 = .ok (.iload 5, 2) := by decide +kernel
theorem d15_227 : decode prog_67_method_6_code 227 = .ok (.invokestatic 78, 3) := by decide +kernel
theorem d15_230 : decode prog_67_method_6_code 230 = .ok (.areturn, 1) := by decide +kernel
theorem pn_15 : plainName "com/example/strati/strati/sim/WriteBuffer" = true := by first | (simp [plainName, overriddenIn]; done) | decide +kernel
theorem pd_15 : parseMethodDescriptor "()Lcom/example/strati/strati/sim/RunEntries;" = some ⟨[], (some (.object "com/example/strati/strati/sim/RunEntries"))⟩ := by decide +kernel
theorem ef_15 (m : MethodId) (x0 : Addr) : entryFrame m #[(.ref x0)] 7 = mkF m 0 #[.val (.ref x0), .unset, .unset, .unset, .unset, .unset, .unset] [] := by first | (simp [entryFrame, mkF, argsToLocals, Value.category]; done) | rfl
def own_F15z (Z : State) (x0 : Addr) (kA sA dA pA : Addr) (sv : Value) (K Sz : Nat → Int64) (D : Nat → Int32) (fs : Int64) (ix la : Int32) (n0 : Nat) (h0 : Heap) (v : Option Value) (h : Heap) (L : List Loc) : Prop := ∃ (r rk : Addr) (KB : Nat → Int64), v = some (.ref r) ∧ Fr n0 L ∧ Exa Z h r "com/example/strati/strati/sim/RunEntries" ∧ Fld Z h r "com/example/strati/strati/sim/RunEntries" "keys" "[J" (.ref rk) ∧ Fld Z h r "com/example/strati/strati/sim/RunEntries" "size" "J" (.long (fs * ((1 : Int32).toInt64))) ∧ own_Ar Z h rk .long 1 (fun uu => .long (KB uu))
set_option maxRecDepth 65536 in
set_option maxHeartbeats 40000000 in
theorem own_m15z (l : Launch) (Z : State) (a0 : Array Value) (hw : ∀ d ∈ tables_1, d.before a0 Z = true) (ws : List Jvm.Cond) (x0 : Addr) (kA sA dA pA : Addr) (sv : Value) (K Sz : Nat → Int64) (D : Nat → Int32) (fs : Int64) (ix la : Int32) (n0 : Nat) (h0 : Heap)  (B : own_W Z h0 n0 x0 kA sA dA pA sv K Sz D 1 fs 0 0 ix la) :
    MetFree l (⟨"com/example/strati/strati/sim/WriteBuffer", "entries", "()Lcom/example/strati/strati/sim/RunEntries;"⟩ : MethodName) (head1 (Jvm.Cond.code (⟨"com/example/strati/strati/sim/WriteBuffer", "entries", "()Lcom/example/strati/strati/sim/RunEntries;"⟩ : MethodName) prog_67_method_6_code 7 (some (.object "com/example/strati/strati/sim/RunEntries")) :: ws) ({ frames := 5, cells := 4, slots := 11, locals := 88 } : Room)) (fun a U => a = #[(.ref x0)] ∧ Z.Warmed39 U.vm ∧ U.heap = h0) (fun _ _ _ _ _ => True) (fun _ U o U' => ∃ v L, o = .returned v ∧ own_F15z Z x0 kA sA dA pA sv K Sz D fs ix la n0 h0 v U'.heap L ∧ FrameEnd U o U' L ({ frames := 5, cells := 4, slots := 11, locals := 88 } : Room).cells ({ frames := 5, cells := 4, slots := 11, locals := 88 } : Room).slots) := by
  refine MetFree.of_bodySF (plainFor_of_name pn_15) hisR ?_
  intro p e s m args below meth c s₁ Bd hml0 hP hK
  obtain ⟨rfl, hZ, hh⟩ := hP
  have hx := Bd.exec
  have hby := Bd.bytes
  have hml : c.maxLocals = 7 := hml0
  have hown : s.vm.findClass "com/example/strati/strati/sim/WriteBuffer" = some m.cls := findClass_of_methodNamed Bd.named
  have hnm := (name_of_methodNamed Bd.named Bd.method).1
  have X0 : Stand p l e ({ frames := 5, cells := 4, slots := 11, locals := 88 } : Room) s m #[(.ref x0)] below meth c s₁ [] 0 0 := Stand.of_body Bd
  have e0 : s₁.heap = h0 := by rw [← hh, Bd.state]; rfl
  obtain ⟨E0, P0, P1, P2, P3, P4, P5, P6, P7, P8, P9, P10, R0, R1, R2, R3, n1, n2, n3, n4, n5, n6, n7, n8, n9, n10, gw0, gw1, gw2, gw3, hmx, ham⟩ := B
  have Z0 : n0 ≤ h0.size := Nat.le_trans gw0 (Nat.le_of_lt E0.lt)
  have N0 := Fr.nil n0
  have K0 : Keep h0 h0 [x0] := Keep.refl h0 [x0]
  have hgo : own_Goes p e below s (own_F15z Z x0 kA sA dA pA sv K Sz D fs ix la n0 h0) 4 11 (s₁.setTop (mkF m 0 #[.val (.ref x0), .unset, .unset, .unset, .unset, .unset, .unset] [])) := by
    refine own_Goes.step (fun tq kq => XS.aloadN X0.here hx rfl (hb hby d15_0) rfl rfl kq) ?_
    show own_Goes _ _ _ _ _ _ _ (s₁.setTop (mkF m 1 #[.val (.ref x0), .unset, .unset, .unset, .unset, .unset, .unset] [(.ref x0)]))
    obtain ⟨T1, X1, e1, st1⟩ := getF X0 hx hZ hown (host := "") (Or.inl (own_at hw 52 rfl)) Via.refl e0 P6 (g := (mkF m 1 #[.val (.ref x0), .unset, .unset, .unset, .unset, .unset, .unset] [(.ref x0)])) rfl rfl (hb hby d15_1)
    refine own_Goes.step st1 ?_
    show own_Goes _ _ _ _ _ _ _ (T1.setTop (mkF m 4 #[.val (.ref x0), .unset, .unset, .unset, .unset, .unset, .unset] [(.int (0 : Int32))]))
    refine own_Goes.step (fun tq kq => XS.ifNo X1.here hx rfl (hb hby d15_4) rfl (XT.i0_ne_f (by decide)) kq) ?_
    show own_Goes _ _ _ _ _ _ _ (T1.setTop (mkF m 7 #[.val (.ref x0), .unset, .unset, .unset, .unset, .unset, .unset] []))
    refine own_Goes.step (fun tq kq => XS.aloadN X1.here hx rfl (hb hby d15_7) rfl rfl kq) ?_
    show own_Goes _ _ _ _ _ _ _ (T1.setTop (mkF m 8 #[.val (.ref x0), .unset, .unset, .unset, .unset, .unset, .unset] [(.ref x0)]))
    obtain ⟨T2, X2, e2, st2⟩ := getF X1 hx hZ hown (host := "") (Or.inl (own_at hw 54 rfl)) Via.refl e1 P7 (g := (mkF m 8 #[.val (.ref x0), .unset, .unset, .unset, .unset, .unset, .unset] [(.ref x0)])) rfl rfl (hb hby d15_8)
    refine own_Goes.step st2 ?_
    show own_Goes _ _ _ _ _ _ _ (T2.setTop (mkF m 11 #[.val (.ref x0), .unset, .unset, .unset, .unset, .unset, .unset] [(.int (0 : Int32))]))
    refine own_Goes.step (fun tq kq => XS.ifNo X2.here hx rfl (hb hby d15_11) rfl (XT.i0_ne_f (by decide)) kq) ?_
    show own_Goes _ _ _ _ _ _ _ (T2.setTop (mkF m 14 #[.val (.ref x0), .unset, .unset, .unset, .unset, .unset, .unset] []))
    refine own_Goes.step (fun tq kq => XT.iconstV X2.here hx rfl (1 : Int32) (hb hby d15_14) (by decide) kq) ?_
    show own_Goes _ _ _ _ _ _ _ (T2.setTop (mkF m 15 #[.val (.ref x0), .unset, .unset, .unset, .unset, .unset, .unset] [(.int (1 : Int32))]))
    refine own_Goes.step (fun tq kq => XS.goto X2.here hx rfl (pc0 := 15) (pc' := 19) rfl (hb hby d15_15) (by decide) (by decide) kq) ?_
    show own_Goes _ _ _ _ _ _ _ (T2.setTop (mkF m 19 #[.val (.ref x0), .unset, .unset, .unset, .unset, .unset, .unset] [(.int (1 : Int32))]))
    refine own_Goes.step (fun tq kq => XS.istoreN X2.here hx rfl (hb hby d15_19) rfl (l' := #[.val (.ref x0), .val (.int (1 : Int32)), .unset, .unset, .unset, .unset, .unset]) rfl kq) ?_
    show own_Goes _ _ _ _ _ _ _ (T2.setTop (mkF m 20 #[.val (.ref x0), .val (.int (1 : Int32)), .unset, .unset, .unset, .unset, .unset] []))
    refine own_Goes.step (fun tq kq => XS.iloadN X2.here hx rfl (hb hby d15_20) rfl kq) ?_
    show own_Goes _ _ _ _ _ _ _ (T2.setTop (mkF m 21 #[.val (.ref x0), .val (.int (1 : Int32)), .unset, .unset, .unset, .unset, .unset] [(.int (1 : Int32))]))
    refine own_Goes.step (fun tq kq => XS.ifYes X2.here hx rfl (pc0 := 21) (pc' := 47) rfl (hb hby d15_21) rfl (XT.i0_ne_t (by decide)) (by decide) (by decide) kq) ?_
    show own_Goes _ _ _ _ _ _ _ (T2.setTop (mkF m 47 #[.val (.ref x0), .val (.int (1 : Int32)), .unset, .unset, .unset, .unset, .unset] []))
    refine own_Goes.step (fun tq kq => XS.aloadN X2.here hx rfl (hb hby d15_47) rfl rfl kq) ?_
    show own_Goes _ _ _ _ _ _ _ (T2.setTop (mkF m 48 #[.val (.ref x0), .val (.int (1 : Int32)), .unset, .unset, .unset, .unset, .unset] [(.ref x0)]))
    obtain ⟨T3, X3, e3, st3⟩ := getF X2 hx hZ hown (host := "") (Or.inl (own_at hw 43 rfl)) Via.refl e2 P4 (g := (mkF m 48 #[.val (.ref x0), .val (.int (1 : Int32)), .unset, .unset, .unset, .unset, .unset] [(.ref x0)])) rfl rfl (hb hby d15_48)
    refine own_Goes.step st3 ?_
    show own_Goes _ _ _ _ _ _ _ (T3.setTop (mkF m 51 #[.val (.ref x0), .val (.int (1 : Int32)), .unset, .unset, .unset, .unset, .unset] [(.int (1 : Int32))]))
    obtain ⟨T4, h4, k4, X4, e4, E4, A4, st4⟩ := newP X3 hx hZ (own_at hw 9 rfl) e3 (g := (mkF m 51 #[.val (.ref x0), .val (.int (1 : Int32)), .unset, .unset, .unset, .unset, .unset] [(.int (1 : Int32))])) rfl (hb hby d15_51) rfl (by decide) (cap := 1) (by decide) (by decide) (by decide) (by decide)
    obtain ⟨a4, g4⟩ : ∃ z, z = h0.size := ⟨_, rfl⟩
    rw [← g4] at A4 st4
    have ne5 : x0 ≠ a4 := by rw [g4]; exact Nat.ne_of_lt E0.lt
    have ne6 : kA ≠ a4 := by rw [g4]; exact Nat.ne_of_lt R0.lt
    have ne7 : sA ≠ a4 := by rw [g4]; exact Nat.ne_of_lt R1.lt
    have ne8 : dA ≠ a4 := by rw [g4]; exact Nat.ne_of_lt R2.lt
    have ne9 : pA ≠ a4 := by rw [g4]; exact Nat.ne_of_lt R3.lt
    have f10 := Jvm.RoadKit.Exa.ext E4 E0
    have f11 := Jvm.RoadKit.Fld.ext E4 P0
    have f12 := Jvm.RoadKit.Fld.ext E4 P1
    have f13 := Jvm.RoadKit.Fld.ext E4 P2
    have f14 := Jvm.RoadKit.Fld.ext E4 P3
    have f15 := Jvm.RoadKit.Fld.ext E4 P4
    have f16 := Jvm.RoadKit.Fld.ext E4 P5
    have f17 := Jvm.RoadKit.Fld.ext E4 P6
    have f18 := Jvm.RoadKit.Fld.ext E4 P7
    have f19 := Jvm.RoadKit.Fld.ext E4 P8
    have f20 := Jvm.RoadKit.Fld.ext E4 P9
    have f21 := Jvm.RoadKit.Fld.ext E4 P10
    have f22 := R0.ext E4
    have f23 := R1.ext E4
    have f24 := R2.ext E4
    have f25 := R3.ext E4
    have r4 : own_Ar Z h4 a4 .long 1 (fun uu => .long ((fun _ => (0 : Int64)) uu)) := own_Ar.new A4
    have ga4 : n0 ≤ a4 := Nat.le_trans Z0 (Nat.le_of_eq g4.symm)
    have Z4 : n0 ≤ h4.size := Nat.le_trans Z0 E4.1
    have K4 := K0.ext E4
    have Kh4 : h0.size ≤ a4 := Nat.le_trans K0.1 (Nat.le_of_eq g4.symm)
    refine own_Goes.step st4 ?_
    show own_Goes _ _ _ _ _ _ _ (T4.setTop (mkF m 53 #[.val (.ref x0), .val (.int (1 : Int32)), .unset, .unset, .unset, .unset, .unset] [(.ref a4)]))
    refine own_Goes.step (fun tq kq => XS.astoreN X4.here hx rfl (hb hby d15_53) rfl rfl (l' := #[.val (.ref x0), .val (.int (1 : Int32)), .val (.ref a4), .unset, .unset, .unset, .unset]) rfl kq) ?_
    show own_Goes _ _ _ _ _ _ _ (T4.setTop (mkF m 54 #[.val (.ref x0), .val (.int (1 : Int32)), .val (.ref a4), .unset, .unset, .unset, .unset] []))
    refine own_Goes.step (fun tq kq => XS.aloadN X4.here hx rfl (hb hby d15_54) rfl rfl kq) ?_
    show own_Goes _ _ _ _ _ _ _ (T4.setTop (mkF m 55 #[.val (.ref x0), .val (.int (1 : Int32)), .val (.ref a4), .unset, .unset, .unset, .unset] [(.ref x0)]))
    obtain ⟨T26, X26, e26, st26⟩ := getF X4 hx hZ hown (host := "") (Or.inl (own_at hw 10 rfl)) Via.refl e4 f11 (g := (mkF m 55 #[.val (.ref x0), .val (.int (1 : Int32)), .val (.ref a4), .unset, .unset, .unset, .unset] [(.ref x0)])) rfl rfl (hb hby d15_55)
    refine own_Goes.step st26 ?_
    show own_Goes _ _ _ _ _ _ _ (T26.setTop (mkF m 58 #[.val (.ref x0), .val (.int (1 : Int32)), .val (.ref a4), .unset, .unset, .unset, .unset] [(.ref kA)]))
    refine own_Goes.step (fun tq kq => XS.aloadN X26.here hx rfl (hb hby d15_58) rfl rfl kq) ?_
    show own_Goes _ _ _ _ _ _ _ (T26.setTop (mkF m 59 #[.val (.ref x0), .val (.int (1 : Int32)), .val (.ref a4), .unset, .unset, .unset, .unset] [(.ref x0), (.ref kA)]))
    obtain ⟨T27, X27, e27, st27⟩ := getF X26 hx hZ hown (host := "") (Or.inl (own_at hw 43 rfl)) Via.refl e26 f15 (g := (mkF m 59 #[.val (.ref x0), .val (.int (1 : Int32)), .val (.ref a4), .unset, .unset, .unset, .unset] [(.ref x0), (.ref kA)])) rfl rfl (hb hby d15_59)
    refine own_Goes.step st27 ?_
    show own_Goes _ _ _ _ _ _ _ (T27.setTop (mkF m 62 #[.val (.ref x0), .val (.int (1 : Int32)), .val (.ref a4), .unset, .unset, .unset, .unset] [(.int (1 : Int32)), (.ref kA)]))
    refine own_Goes.step (fun tq kq => XS.aloadN X27.here hx rfl (hb hby d15_62) rfl rfl kq) ?_
    show own_Goes _ _ _ _ _ _ _ (T27.setTop (mkF m 63 #[.val (.ref x0), .val (.int (1 : Int32)), .val (.ref a4), .unset, .unset, .unset, .unset] [(.ref a4), (.int (1 : Int32)), (.ref kA)]))
    refine own_Goes.step (fun tq kq => XS.iloadN X27.here hx rfl (hb hby d15_63) rfl kq) ?_
    show own_Goes _ _ _ _ _ _ _ (T27.setTop (mkF m 64 #[.val (.ref x0), .val (.int (1 : Int32)), .val (.ref a4), .unset, .unset, .unset, .unset] [(.int (1 : Int32)), (.ref a4), (.int (1 : Int32)), (.ref kA)]))
    refine own_Goes.step (fun tq kq => XS.ifNo X27.here hx rfl (hb hby d15_64) rfl (XT.i0_eq_f (by decide)) kq) ?_
    show own_Goes _ _ _ _ _ _ _ (T27.setTop (mkF m 67 #[.val (.ref x0), .val (.int (1 : Int32)), .val (.ref a4), .unset, .unset, .unset, .unset] [(.ref a4), (.int (1 : Int32)), (.ref kA)]))
    refine own_Goes.step (fun tq kq => XS.aconstNull X27.here hx rfl (hb hby d15_67) kq) ?_
    show own_Goes _ _ _ _ _ _ _ (T27.setTop (mkF m 68 #[.val (.ref x0), .val (.int (1 : Int32)), .val (.ref a4), .unset, .unset, .unset, .unset] [.null, (.ref a4), (.int (1 : Int32)), (.ref kA)]))
    refine own_Goes.step (fun tq kq => XS.goto X27.here hx rfl (pc0 := 68) (pc' := 75) rfl (hb hby d15_68) (by decide) (by decide) kq) ?_
    show own_Goes _ _ _ _ _ _ _ (T27.setTop (mkF m 75 #[.val (.ref x0), .val (.int (1 : Int32)), .val (.ref a4), .unset, .unset, .unset, .unset] [.null, (.ref a4), (.int (1 : Int32)), (.ref kA)]))
    obtain ⟨w28, T28, L28, q28, Y28, st28⟩ := own_stat X27 hx hZ e27 hown (own_at hw 103 rfl) (own_at hw 104 rfl) (own_at hw 105 rfl) (own_at hw 106 rfl) (by decide) (own_m16z l Z a0 hw [] kA a4 K (fun _ => (0 : Int64)) n0 h4 Z4 f22 r4 ne6 ga4) (by decide) (W := 0) (by decide) (by decide) (by decide) (g := (mkF m 75 #[.val (.ref x0), .val (.int (1 : Int32)), .val (.ref a4), .unset, .unset, .unset, .unset] [.null, (.ref a4), (.int (1 : Int32)), (.ref kA)])) rfl (by rw [hml]; rfl) (argsL := [(.ref kA), (.int (1 : Int32)), (.ref a4), .null]) (rest := []) (lenOf pd_16 rfl) rfl (by show 2 * 0 + _ ≤ _; exact Nat.le_of_eq rfl) (hb hby d15_75)
    obtain ⟨rfl, N28, K28, U28⟩ := q28
    have Nn28 := Fr.app N0 N28
    have Kn28 := K4.trans K28 (own_kt (Or.inr Kh4))
    have Zn28 : n0 ≤ T28.heap.size := Nat.le_trans Z4 K28.1
    have f29 := f10.keep K28
    have f30 := f11.keep K28 (own_nin ne5)
    have f31 := f12.keep K28 (own_nin ne5)
    have f32 := f13.keep K28 (own_nin ne5)
    have f33 := f14.keep K28 (own_nin ne5)
    have f34 := f15.keep K28 (own_nin ne5)
    have f35 := f16.keep K28 (own_nin ne5)
    have f36 := f17.keep K28 (own_nin ne5)
    have f37 := f18.keep K28 (own_nin ne5)
    have f38 := f19.keep K28 (own_nin ne5)
    have f39 := f20.keep K28 (own_nin ne5)
    have f40 := f21.keep K28 (own_nin ne5)
    have f41 := f22.keep K28 (own_nin ne6)
    have f42 := f23.keep K28 (own_nin ne7)
    have f43 := f24.keep K28 (own_nin ne8)
    have f44 := f25.keep K28 (own_nin ne9)
    refine own_Goes.step st28 ?_
    show own_Goes _ _ _ _ _ _ _ (T28.setTop (mkF m 78 #[.val (.ref x0), .val (.int (1 : Int32)), .val (.ref a4), .unset, .unset, .unset, .unset] []))
    refine own_Goes.step (fun tq kq => XS.aloadN Y28.here hx rfl (hb hby d15_78) rfl rfl kq) ?_
    show own_Goes _ _ _ _ _ _ _ (T28.setTop (mkF m 79 #[.val (.ref x0), .val (.int (1 : Int32)), .val (.ref a4), .unset, .unset, .unset, .unset] [(.ref x0)]))
    obtain ⟨T45, X45, e45, st45⟩ := getF Y28 hx hZ hown (host := "") (Or.inl (own_at hw 52 rfl)) Via.refl rfl f36 (g := (mkF m 79 #[.val (.ref x0), .val (.int (1 : Int32)), .val (.ref a4), .unset, .unset, .unset, .unset] [(.ref x0)])) rfl rfl (hb hby d15_79)
    refine own_Goes.step st45 ?_
    show own_Goes _ _ _ _ _ _ _ (T45.setTop (mkF m 82 #[.val (.ref x0), .val (.int (1 : Int32)), .val (.ref a4), .unset, .unset, .unset, .unset] [(.int (0 : Int32))]))
    refine own_Goes.step (fun tq kq => XS.ifYes X45.here hx rfl (pc0 := 82) (pc' := 94) rfl (hb hby d15_82) rfl (XT.i0_eq_t (by decide)) (by decide) (by decide) kq) ?_
    show own_Goes _ _ _ _ _ _ _ (T45.setTop (mkF m 94 #[.val (.ref x0), .val (.int (1 : Int32)), .val (.ref a4), .unset, .unset, .unset, .unset] []))
    refine own_Goes.step (fun tq kq => XS.aconstNull X45.here hx rfl (hb hby d15_94) kq) ?_
    show own_Goes _ _ _ _ _ _ _ (T45.setTop (mkF m 95 #[.val (.ref x0), .val (.int (1 : Int32)), .val (.ref a4), .unset, .unset, .unset, .unset] [.null]))
    refine own_Goes.step (fun tq kq => XS.astoreN X45.here hx rfl (hb hby d15_95) rfl rfl (l' := #[.val (.ref x0), .val (.int (1 : Int32)), .val (.ref a4), .val .null, .unset, .unset, .unset]) rfl kq) ?_
    show own_Goes _ _ _ _ _ _ _ (T45.setTop (mkF m 96 #[.val (.ref x0), .val (.int (1 : Int32)), .val (.ref a4), .val .null, .unset, .unset, .unset] []))
    refine own_Goes.step (fun tq kq => XS.aloadN X45.here hx rfl (hb hby d15_96) rfl rfl kq) ?_
    show own_Goes _ _ _ _ _ _ _ (T45.setTop (mkF m 97 #[.val (.ref x0), .val (.int (1 : Int32)), .val (.ref a4), .val .null, .unset, .unset, .unset] [(.ref x0)]))
    obtain ⟨T46, X46, e46, st46⟩ := getF X45 hx hZ hown (host := "") (Or.inl (own_at hw 54 rfl)) Via.refl e45 f37 (g := (mkF m 97 #[.val (.ref x0), .val (.int (1 : Int32)), .val (.ref a4), .val .null, .unset, .unset, .unset] [(.ref x0)])) rfl rfl (hb hby d15_97)
    refine own_Goes.step st46 ?_
    show own_Goes _ _ _ _ _ _ _ (T46.setTop (mkF m 100 #[.val (.ref x0), .val (.int (1 : Int32)), .val (.ref a4), .val .null, .unset, .unset, .unset] [(.int (0 : Int32))]))
    refine own_Goes.step (fun tq kq => XS.ifYes X46.here hx rfl (pc0 := 100) (pc' := 112) rfl (hb hby d15_100) rfl (XT.i0_eq_t (by decide)) (by decide) (by decide) kq) ?_
    show own_Goes _ _ _ _ _ _ _ (T46.setTop (mkF m 112 #[.val (.ref x0), .val (.int (1 : Int32)), .val (.ref a4), .val .null, .unset, .unset, .unset] []))
    refine own_Goes.step (fun tq kq => XS.aconstNull X46.here hx rfl (hb hby d15_112) kq) ?_
    show own_Goes _ _ _ _ _ _ _ (T46.setTop (mkF m 113 #[.val (.ref x0), .val (.int (1 : Int32)), .val (.ref a4), .val .null, .unset, .unset, .unset] [.null]))
    refine own_Goes.step (fun tq kq => XS.astore X46.here hx rfl (hb hby d15_113) rfl rfl (l' := #[.val (.ref x0), .val (.int (1 : Int32)), .val (.ref a4), .val .null, .val .null, .unset, .unset]) rfl kq) ?_
    show own_Goes _ _ _ _ _ _ _ (T46.setTop (mkF m 115 #[.val (.ref x0), .val (.int (1 : Int32)), .val (.ref a4), .val .null, .val .null, .unset, .unset] []))
    refine own_Goes.step (fun tq kq => XT.iconstV X46.here hx rfl (0 : Int32) (hb hby d15_115) (by decide) kq) ?_
    show own_Goes _ _ _ _ _ _ _ (T46.setTop (mkF m 116 #[.val (.ref x0), .val (.int (1 : Int32)), .val (.ref a4), .val .null, .val .null, .unset, .unset] [(.int (0 : Int32))]))
    refine own_Goes.step (fun tq kq => XS.istore X46.here hx rfl (hb hby d15_116) rfl (l' := #[.val (.ref x0), .val (.int (1 : Int32)), .val (.ref a4), .val .null, .val .null, .val (.int (0 : Int32)), .unset]) rfl kq) ?_
    show own_Goes _ _ _ _ _ _ _ (T46.setTop (mkF m 118 #[.val (.ref x0), .val (.int (1 : Int32)), .val (.ref a4), .val .null, .val .null, .val (.int (0 : Int32)), .unset] []))
    refine own_Goes.step (fun tq kq => XT.iconstV X46.here hx rfl (0 : Int32) (hb hby d15_118) (by decide) kq) ?_
    show own_Goes _ _ _ _ _ _ _ (T46.setTop (mkF m 119 #[.val (.ref x0), .val (.int (1 : Int32)), .val (.ref a4), .val .null, .val .null, .val (.int (0 : Int32)), .unset] [(.int (0 : Int32))]))
    refine own_Goes.step (fun tq kq => XS.istore X46.here hx rfl (hb hby d15_119) rfl (l' := #[.val (.ref x0), .val (.int (1 : Int32)), .val (.ref a4), .val .null, .val .null, .val (.int (0 : Int32)), .val (.int (0 : Int32))]) rfl kq) ?_
    show own_Goes _ _ _ _ _ _ _ (T46.setTop (mkF m 121 #[.val (.ref x0), .val (.int (1 : Int32)), .val (.ref a4), .val .null, .val .null, .val (.int (0 : Int32)), .val (.int (0 : Int32))] []))
    refine own_Goes.step (fun tq kq => XS.iload X46.here hx rfl (hb hby d15_121) rfl kq) ?_
    show own_Goes _ _ _ _ _ _ _ (T46.setTop (mkF m 123 #[.val (.ref x0), .val (.int (1 : Int32)), .val (.ref a4), .val .null, .val .null, .val (.int (0 : Int32)), .val (.int (0 : Int32))] [(.int (0 : Int32))]))
    refine own_Goes.step (fun tq kq => XS.aloadN X46.here hx rfl (hb hby d15_123) rfl rfl kq) ?_
    show own_Goes _ _ _ _ _ _ _ (T46.setTop (mkF m 124 #[.val (.ref x0), .val (.int (1 : Int32)), .val (.ref a4), .val .null, .val .null, .val (.int (0 : Int32)), .val (.int (0 : Int32))] [(.ref x0), (.int (0 : Int32))]))
    obtain ⟨T47, X47, e47, st47⟩ := getF X46 hx hZ hown (host := "") (Or.inl (own_at hw 43 rfl)) Via.refl e46 f34 (g := (mkF m 124 #[.val (.ref x0), .val (.int (1 : Int32)), .val (.ref a4), .val .null, .val .null, .val (.int (0 : Int32)), .val (.int (0 : Int32))] [(.ref x0), (.int (0 : Int32))])) rfl rfl (hb hby d15_124)
    refine own_Goes.step st47 ?_
    show own_Goes _ _ _ _ _ _ _ (T47.setTop (mkF m 127 #[.val (.ref x0), .val (.int (1 : Int32)), .val (.ref a4), .val .null, .val .null, .val (.int (0 : Int32)), .val (.int (0 : Int32))] [(.int (1 : Int32)), (.int (0 : Int32))]))
    refine own_Goes.step (fun tq kq => XS.icmpNo X47.here hx rfl (hb hby d15_127) rfl (XT.ii_ge_f (by decide)) kq) ?_
    show own_Goes _ _ _ _ _ _ _ (T47.setTop (mkF m 130 #[.val (.ref x0), .val (.int (1 : Int32)), .val (.ref a4), .val .null, .val .null, .val (.int (0 : Int32)), .val (.int (0 : Int32))] []))
    refine own_Goes.step (fun tq kq => XS.iload X47.here hx rfl (hb hby d15_130) rfl kq) ?_
    show own_Goes _ _ _ _ _ _ _ (T47.setTop (mkF m 132 #[.val (.ref x0), .val (.int (1 : Int32)), .val (.ref a4), .val .null, .val .null, .val (.int (0 : Int32)), .val (.int (0 : Int32))] [(.int (0 : Int32))]))
    refine own_Goes.step (fun tq kq => XT.iconstV X47.here hx rfl (1 : Int32) (hb hby d15_132) (by decide) kq) ?_
    show own_Goes _ _ _ _ _ _ _ (T47.setTop (mkF m 133 #[.val (.ref x0), .val (.int (1 : Int32)), .val (.ref a4), .val .null, .val .null, .val (.int (0 : Int32)), .val (.int (0 : Int32))] [(.int (1 : Int32)), (.int (0 : Int32))]))
    refine own_Goes.step (fun tq kq => XS.iadd X47.here hx rfl (hb hby d15_133) rfl kq) ?_
    show own_Goes _ _ _ _ _ _ _ (T47.setTop (mkF m 134 #[.val (.ref x0), .val (.int (1 : Int32)), .val (.ref a4), .val .null, .val .null, .val (.int (0 : Int32)), .val (.int (0 : Int32))] [(.int (1 : Int32))]))
    refine own_Goes.step (fun tq kq => XS.aloadN X47.here hx rfl (hb hby d15_134) rfl rfl kq) ?_
    show own_Goes _ _ _ _ _ _ _ (T47.setTop (mkF m 135 #[.val (.ref x0), .val (.int (1 : Int32)), .val (.ref a4), .val .null, .val .null, .val (.int (0 : Int32)), .val (.int (0 : Int32))] [(.ref x0), (.int (1 : Int32))]))
    obtain ⟨T48, X48, e48, st48⟩ := getF X47 hx hZ hown (host := "") (Or.inl (own_at hw 43 rfl)) Via.refl e47 f34 (g := (mkF m 135 #[.val (.ref x0), .val (.int (1 : Int32)), .val (.ref a4), .val .null, .val .null, .val (.int (0 : Int32)), .val (.int (0 : Int32))] [(.ref x0), (.int (1 : Int32))])) rfl rfl (hb hby d15_135)
    refine own_Goes.step st48 ?_
    show own_Goes _ _ _ _ _ _ _ (T48.setTop (mkF m 138 #[.val (.ref x0), .val (.int (1 : Int32)), .val (.ref a4), .val .null, .val .null, .val (.int (0 : Int32)), .val (.int (0 : Int32))] [(.int (1 : Int32)), (.int (1 : Int32))]))
    refine own_Goes.step (fun tq kq => XS.icmpYes X48.here hx rfl (pc0 := 138) (pc' := 158) rfl (hb hby d15_138) rfl (XT.ii_ge_t (by decide)) (by decide) (by decide) kq) ?_
    show own_Goes _ _ _ _ _ _ _ (T48.setTop (mkF m 158 #[.val (.ref x0), .val (.int (1 : Int32)), .val (.ref a4), .val .null, .val .null, .val (.int (0 : Int32)), .val (.int (0 : Int32))] []))
    refine own_Goes.step (fun tq kq => XS.aloadN X48.here hx rfl (hb hby d15_158) rfl rfl kq) ?_
    show own_Goes _ _ _ _ _ _ _ (T48.setTop (mkF m 159 #[.val (.ref x0), .val (.int (1 : Int32)), .val (.ref a4), .val .null, .val .null, .val (.int (0 : Int32)), .val (.int (0 : Int32))] [(.ref a4)]))
    refine own_Goes.step (fun tq kq => XS.iload X48.here hx rfl (hb hby d15_159) rfl kq) ?_
    show own_Goes _ _ _ _ _ _ _ (T48.setTop (mkF m 161 #[.val (.ref x0), .val (.int (1 : Int32)), .val (.ref a4), .val .null, .val .null, .val (.int (0 : Int32)), .val (.int (0 : Int32))] [(.int (0 : Int32)), (.ref a4)]))
    refine own_Goes.step (fun tq kq => XS.aloadN X48.here hx rfl (hb hby d15_161) rfl rfl kq) ?_
    show own_Goes _ _ _ _ _ _ _ (T48.setTop (mkF m 162 #[.val (.ref x0), .val (.int (1 : Int32)), .val (.ref a4), .val .null, .val .null, .val (.int (0 : Int32)), .val (.int (0 : Int32))] [(.ref a4), (.int (0 : Int32)), (.ref a4)]))
    refine own_Goes.step (fun tq kq => XS.iload X48.here hx rfl (hb hby d15_162) rfl kq) ?_
    show own_Goes _ _ _ _ _ _ _ (T48.setTop (mkF m 164 #[.val (.ref x0), .val (.int (1 : Int32)), .val (.ref a4), .val .null, .val .null, .val (.int (0 : Int32)), .val (.int (0 : Int32))] [(.int (0 : Int32)), (.ref a4), (.int (0 : Int32)), (.ref a4)]))
    refine own_Goes.step (own_lald X48 hx hZ e48 U28 (i := 0) rfl (by decide) (v := (.long ((fun j => if j = 0 then K 0 else (fun _ => (0 : Int64)) j) 0))) rfl (g := (mkF m 164 #[.val (.ref x0), .val (.int (1 : Int32)), .val (.ref a4), .val .null, .val .null, .val (.int (0 : Int32)), .val (.int (0 : Int32))] [(.int (0 : Int32)), (.ref a4), (.int (0 : Int32)), (.ref a4)])) rfl rfl (hb hby d15_164)) ?_
    show own_Goes _ _ _ _ _ _ _ (T48.setTop (mkF m 165 #[.val (.ref x0), .val (.int (1 : Int32)), .val (.ref a4), .val .null, .val .null, .val (.int (0 : Int32)), .val (.int (0 : Int32))] [(.long ((fun j => if j = 0 then K 0 else (fun _ => (0 : Int64)) j) 0)), (.int (0 : Int32)), (.ref a4)]))
    obtain ⟨T50, h50, X50, e50, W50, st50⟩ := own_last X48 hx hZ e48 U28 (i := 0) rfl (by decide) (g := (mkF m 165 #[.val (.ref x0), .val (.int (1 : Int32)), .val (.ref a4), .val .null, .val .null, .val (.int (0 : Int32)), .val (.int (0 : Int32))] [(.long ((fun j => if j = 0 then K 0 else (fun _ => (0 : Int64)) j) 0)), (.int (0 : Int32)), (.ref a4)])) rfl rfl (hb hby d15_165)
    refine own_Goes.step st50 ?_
    have f51 := f29.wr W50
    have f52 := f30.other W50 (Or.inl ne5)
    have f53 := f31.other W50 (Or.inl ne5)
    have f54 := f32.other W50 (Or.inl ne5)
    have f55 := f33.other W50 (Or.inl ne5)
    have f56 := f34.other W50 (Or.inl ne5)
    have f57 := f35.other W50 (Or.inl ne5)
    have f58 := f36.other W50 (Or.inl ne5)
    have f59 := f37.other W50 (Or.inl ne5)
    have f60 := f38.other W50 (Or.inl ne5)
    have f61 := f39.other W50 (Or.inl ne5)
    have f62 := f40.other W50 (Or.inl ne5)
    have f63 := f41.other W50 ne6
    have f64 := f42.other W50 ne7
    have f65 := f43.other W50 ne8
    have f66 := f44.other W50 ne9
    have f67 : own_Ar Z h50 a4 .long 1 (fun uu => .long ((fun j => if j = 0 then ((fun j => if j = 0 then K 0 else (fun _ => (0 : Int64)) j) 0) else (fun j => if j = 0 then K 0 else (fun _ => (0 : Int64)) j) j) uu)) := (U28.set W50).congr fun j _ => by dsimp only; exact (apply_ite Value.long _ _ _).symm
    have K68 := Kn28.wr W50 (Or.inr Kh4)
    have N69 := Fr.snoc X50 Nn28 ga4
    have Z70 : n0 ≤ h50.size := Nat.le_trans Zn28 (Keep.of_wr W50).1
    show own_Goes _ _ _ _ _ _ _ (T50.setTop (mkF m 166 #[.val (.ref x0), .val (.int (1 : Int32)), .val (.ref a4), .val .null, .val .null, .val (.int (0 : Int32)), .val (.int (0 : Int32))] []))
    refine own_Goes.step (fun tq kq => XS.aloadN X50.here hx rfl (hb hby d15_166) rfl rfl kq) ?_
    show own_Goes _ _ _ _ _ _ _ (T50.setTop (mkF m 167 #[.val (.ref x0), .val (.int (1 : Int32)), .val (.ref a4), .val .null, .val .null, .val (.int (0 : Int32)), .val (.int (0 : Int32))] [.null]))
    refine own_Goes.step (fun tq kq => XS.ifnullYes X50.here hx rfl (pc0 := 167) (pc' := 186) rfl (hb hby d15_167) rfl (by decide) (by decide) kq) ?_
    show own_Goes _ _ _ _ _ _ _ (T50.setTop (mkF m 186 #[.val (.ref x0), .val (.int (1 : Int32)), .val (.ref a4), .val .null, .val .null, .val (.int (0 : Int32)), .val (.int (0 : Int32))] []))
    refine own_Goes.step (fun tq kq => XS.aload X50.here hx rfl (hb hby d15_186) rfl rfl kq) ?_
    show own_Goes _ _ _ _ _ _ _ (T50.setTop (mkF m 188 #[.val (.ref x0), .val (.int (1 : Int32)), .val (.ref a4), .val .null, .val .null, .val (.int (0 : Int32)), .val (.int (0 : Int32))] [.null]))
    refine own_Goes.step (fun tq kq => XS.ifnullYes X50.here hx rfl (pc0 := 188) (pc' := 208) rfl (hb hby d15_188) rfl (by decide) (by decide) kq) ?_
    show own_Goes _ _ _ _ _ _ _ (T50.setTop (mkF m 208 #[.val (.ref x0), .val (.int (1 : Int32)), .val (.ref a4), .val .null, .val .null, .val (.int (0 : Int32)), .val (.int (0 : Int32))] []))
    refine own_Goes.step (fun tq kq => XT.iincV X50.here hx rfl (1 : Int32) (hb hby d15_208) (by decide) rfl (l' := #[.val (.ref x0), .val (.int (1 : Int32)), .val (.ref a4), .val .null, .val .null, .val (.int (1 : Int32)), .val (.int (0 : Int32))]) rfl kq) ?_
    show own_Goes _ _ _ _ _ _ _ (T50.setTop (mkF m 211 #[.val (.ref x0), .val (.int (1 : Int32)), .val (.ref a4), .val .null, .val .null, .val (.int (1 : Int32)), .val (.int (0 : Int32))] []))
    refine own_Goes.step (fun tq kq => XT.iincV X50.here hx rfl (1 : Int32) (hb hby d15_211) (by decide) rfl (l' := #[.val (.ref x0), .val (.int (1 : Int32)), .val (.ref a4), .val .null, .val .null, .val (.int (1 : Int32)), .val (.int (1 : Int32))]) rfl kq) ?_
    show own_Goes _ _ _ _ _ _ _ (T50.setTop (mkF m 214 #[.val (.ref x0), .val (.int (1 : Int32)), .val (.ref a4), .val .null, .val .null, .val (.int (1 : Int32)), .val (.int (1 : Int32))] []))
    refine own_Goes.step (fun tq kq => XS.goto X50.here hx rfl (pc0 := 214) (pc' := 121) rfl (hb hby d15_214) (by decide) (by decide) kq) ?_
    show own_Goes _ _ _ _ _ _ _ (T50.setTop (mkF m 121 #[.val (.ref x0), .val (.int (1 : Int32)), .val (.ref a4), .val .null, .val .null, .val (.int (1 : Int32)), .val (.int (1 : Int32))] []))
    refine own_Goes.step (fun tq kq => XS.iload X50.here hx rfl (hb hby d15_121) rfl kq) ?_
    show own_Goes _ _ _ _ _ _ _ (T50.setTop (mkF m 123 #[.val (.ref x0), .val (.int (1 : Int32)), .val (.ref a4), .val .null, .val .null, .val (.int (1 : Int32)), .val (.int (1 : Int32))] [(.int (1 : Int32))]))
    refine own_Goes.step (fun tq kq => XS.aloadN X50.here hx rfl (hb hby d15_123) rfl rfl kq) ?_
    show own_Goes _ _ _ _ _ _ _ (T50.setTop (mkF m 124 #[.val (.ref x0), .val (.int (1 : Int32)), .val (.ref a4), .val .null, .val .null, .val (.int (1 : Int32)), .val (.int (1 : Int32))] [(.ref x0), (.int (1 : Int32))]))
    obtain ⟨T73, X73, e73, st73⟩ := getF X50 hx hZ hown (host := "") (Or.inl (own_at hw 43 rfl)) Via.refl e50 f56 (g := (mkF m 124 #[.val (.ref x0), .val (.int (1 : Int32)), .val (.ref a4), .val .null, .val .null, .val (.int (1 : Int32)), .val (.int (1 : Int32))] [(.ref x0), (.int (1 : Int32))])) rfl rfl (hb hby d15_124)
    refine own_Goes.step st73 ?_
    show own_Goes _ _ _ _ _ _ _ (T73.setTop (mkF m 127 #[.val (.ref x0), .val (.int (1 : Int32)), .val (.ref a4), .val .null, .val .null, .val (.int (1 : Int32)), .val (.int (1 : Int32))] [(.int (1 : Int32)), (.int (1 : Int32))]))
    refine own_Goes.step (fun tq kq => XS.icmpYes X73.here hx rfl (pc0 := 127) (pc' := 217) rfl (hb hby d15_127) rfl (XT.ii_ge_t (by decide)) (by decide) (by decide) kq) ?_
    show own_Goes _ _ _ _ _ _ _ (T73.setTop (mkF m 217 #[.val (.ref x0), .val (.int (1 : Int32)), .val (.ref a4), .val .null, .val .null, .val (.int (1 : Int32)), .val (.int (1 : Int32))] []))
    refine own_Goes.step (fun tq kq => XS.aloadN X73.here hx rfl (hb hby d15_217) rfl rfl kq) ?_
    show own_Goes _ _ _ _ _ _ _ (T73.setTop (mkF m 218 #[.val (.ref x0), .val (.int (1 : Int32)), .val (.ref a4), .val .null, .val .null, .val (.int (1 : Int32)), .val (.int (1 : Int32))] [(.ref a4)]))
    refine own_Goes.step (fun tq kq => XS.aloadN X73.here hx rfl (hb hby d15_218) rfl rfl kq) ?_
    show own_Goes _ _ _ _ _ _ _ (T73.setTop (mkF m 219 #[.val (.ref x0), .val (.int (1 : Int32)), .val (.ref a4), .val .null, .val .null, .val (.int (1 : Int32)), .val (.int (1 : Int32))] [.null, (.ref a4)]))
    refine own_Goes.step (fun tq kq => XS.aloadN X73.here hx rfl (hb hby d15_219) rfl rfl kq) ?_
    show own_Goes _ _ _ _ _ _ _ (T73.setTop (mkF m 220 #[.val (.ref x0), .val (.int (1 : Int32)), .val (.ref a4), .val .null, .val .null, .val (.int (1 : Int32)), .val (.int (1 : Int32))] [(.ref x0), .null, (.ref a4)]))
    obtain ⟨T74, X74, e74, st74⟩ := getF X73 hx hZ hown (host := "") (Or.inl (own_at hw 50 rfl)) Via.refl e73 f57 (g := (mkF m 220 #[.val (.ref x0), .val (.int (1 : Int32)), .val (.ref a4), .val .null, .val .null, .val (.int (1 : Int32)), .val (.int (1 : Int32))] [(.ref x0), .null, (.ref a4)])) rfl rfl (hb hby d15_220)
    refine own_Goes.step st74 ?_
    show own_Goes _ _ _ _ _ _ _ (T74.setTop (mkF m 223 #[.val (.ref x0), .val (.int (1 : Int32)), .val (.ref a4), .val .null, .val .null, .val (.int (1 : Int32)), .val (.int (1 : Int32))] [(.long fs), .null, (.ref a4)]))
    refine own_Goes.step (fun tq kq => XS.aload X74.here hx rfl (hb hby d15_223) rfl rfl kq) ?_
    show own_Goes _ _ _ _ _ _ _ (T74.setTop (mkF m 225 #[.val (.ref x0), .val (.int (1 : Int32)), .val (.ref a4), .val .null, .val .null, .val (.int (1 : Int32)), .val (.int (1 : Int32))] [.null, (.long fs), .null, (.ref a4)]))
    refine own_Goes.step (fun tq kq => XS.iload X74.here hx rfl (hb hby d15_225) rfl kq) ?_
    show own_Goes _ _ _ _ _ _ _ (T74.setTop (mkF m 227 #[.val (.ref x0), .val (.int (1 : Int32)), .val (.ref a4), .val .null, .val .null, .val (.int (1 : Int32)), .val (.int (1 : Int32))] [(.int (1 : Int32)), .null, (.long fs), .null, (.ref a4)]))
    obtain ⟨w75, T75, L75, q75, Y75, st75⟩ := own_stat X74 hx hZ e74 hown (own_at hw 122 rfl) (own_at hw 123 rfl) (own_at hw 124 rfl) (own_at hw 125 rfl) (by decide) (own_m20z l Z a0 hw [] a4 fs (fun j => if j = 0 then ((fun j => if j = 0 then K 0 else (fun _ => (0 : Int64)) j) 0) else (fun j => if j = 0 then K 0 else (fun _ => (0 : Int64)) j) j) n0 h50 Z70 f67) (by decide) (W := 0) (by decide) (by decide) (by decide) (g := (mkF m 227 #[.val (.ref x0), .val (.int (1 : Int32)), .val (.ref a4), .val .null, .val .null, .val (.int (1 : Int32)), .val (.int (1 : Int32))] [(.int (1 : Int32)), .null, (.long fs), .null, (.ref a4)])) rfl (by rw [hml]; rfl) (argsL := [(.ref a4), .null, (.long fs), .null, (.int (1 : Int32))]) (rest := []) (lenOf pd_20 rfl) rfl (by show 2 * 0 + _ ≤ _; exact Nat.le_of_eq rfl) (hb hby d15_227)
    obtain ⟨r75, rfl, N75, Er, Fk, Fs, Rk⟩ := q75
    have Nn75 := Fr.app N69 N75
    refine own_Goes.step st75 ?_
    show own_Goes _ _ _ _ _ _ _ (T75.setTop (mkF m 230 #[.val (.ref x0), .val (.int (1 : Int32)), .val (.ref a4), .val .null, .val .null, .val (.int (1 : Int32)), .val (.int (1 : Int32))] [(.ref r75)]))
    refine own_endA Y75 hx Bd.notSynchronized rfl Bd.returns rfl (hb hby d15_230) ?_ (by decide) (by decide)
    show own_F15z Z x0 kA sA dA pA sv K Sz D fs ix la n0 h0 _ T75.heap _
    exact ⟨r75, a4, _, rfl, Nn75, Er, Fk, Fs, Rk⟩
  obtain ⟨t2, o2, q1, q2, q3, q4⟩ := hgo
  exact ⟨t2, o2, castTop (ef_15 m x0) q1, q2, q3, q4⟩
def own_F15o (Z : State) (x0 : Addr) (kA sA dA pA : Addr) (sv : Value) (K Sz : Nat → Int64) (D : Nat → Int32) (fs : Int64) (ix la : Int32) (n0 : Nat) (h0 : Heap) (v : Option Value) (h : Heap) (L : List Loc) : Prop := ∃ (r rk : Addr) (KB : Nat → Int64), v = some (.ref r) ∧ Fr n0 L ∧ Exa Z h r "com/example/strati/strati/sim/RunEntries" ∧ Fld Z h r "com/example/strati/strati/sim/RunEntries" "keys" "[J" (.ref rk) ∧ Fld Z h r "com/example/strati/strati/sim/RunEntries" "size" "J" (.long (fs * ((1 : Int32).toInt64))) ∧ own_Ar Z h rk .long 1 (fun uu => .long (KB uu))
set_option maxRecDepth 65536 in
set_option maxHeartbeats 40000000 in
theorem own_m15o (l : Launch) (Z : State) (a0 : Array Value) (hw : ∀ d ∈ tables_1, d.before a0 Z = true) (ws : List Jvm.Cond) (x0 : Addr) (kA sA dA pA : Addr) (sv : Value) (K Sz : Nat → Int64) (D : Nat → Int32) (fs : Int64) (ix la : Int32) (n0 : Nat) (h0 : Heap)  (B : own_W Z h0 n0 x0 kA sA dA pA sv K Sz D 1 fs 0 1 ix la) :
    MetFree l (⟨"com/example/strati/strati/sim/WriteBuffer", "entries", "()Lcom/example/strati/strati/sim/RunEntries;"⟩ : MethodName) (head1 (Jvm.Cond.code (⟨"com/example/strati/strati/sim/WriteBuffer", "entries", "()Lcom/example/strati/strati/sim/RunEntries;"⟩ : MethodName) prog_67_method_6_code 7 (some (.object "com/example/strati/strati/sim/RunEntries")) :: ws) ({ frames := 5, cells := 6, slots := 28, locals := 88 } : Room)) (fun a U => a = #[(.ref x0)] ∧ Z.Warmed39 U.vm ∧ U.heap = h0) (fun _ _ _ _ _ => True) (fun _ U o U' => ∃ v L, o = .returned v ∧ own_F15o Z x0 kA sA dA pA sv K Sz D fs ix la n0 h0 v U'.heap L ∧ FrameEnd U o U' L ({ frames := 5, cells := 6, slots := 28, locals := 88 } : Room).cells ({ frames := 5, cells := 6, slots := 28, locals := 88 } : Room).slots) := by
  refine MetFree.of_bodySF (plainFor_of_name pn_15) hisR ?_
  intro p e s m args below meth c s₁ Bd hml0 hP hK
  obtain ⟨rfl, hZ, hh⟩ := hP
  have hx := Bd.exec
  have hby := Bd.bytes
  have hml : c.maxLocals = 7 := hml0
  have hown : s.vm.findClass "com/example/strati/strati/sim/WriteBuffer" = some m.cls := findClass_of_methodNamed Bd.named
  have hnm := (name_of_methodNamed Bd.named Bd.method).1
  have X0 : Stand p l e ({ frames := 5, cells := 6, slots := 28, locals := 88 } : Room) s m #[(.ref x0)] below meth c s₁ [] 0 0 := Stand.of_body Bd
  have e0 : s₁.heap = h0 := by rw [← hh, Bd.state]; rfl
  obtain ⟨E0, P0, P1, P2, P3, P4, P5, P6, P7, P8, P9, P10, R0, R1, R2, R3, n1, n2, n3, n4, n5, n6, n7, n8, n9, n10, gw0, gw1, gw2, gw3, hmx, ham⟩ := B
  have Z0 : n0 ≤ h0.size := Nat.le_trans gw0 (Nat.le_of_lt E0.lt)
  have N0 := Fr.nil n0
  have K0 : Keep h0 h0 [x0] := Keep.refl h0 [x0]
  have hgo : own_Goes p e below s (own_F15o Z x0 kA sA dA pA sv K Sz D fs ix la n0 h0) 6 28 (s₁.setTop (mkF m 0 #[.val (.ref x0), .unset, .unset, .unset, .unset, .unset, .unset] [])) := by
    refine own_Goes.step (fun tq kq => XS.aloadN X0.here hx rfl (hb hby d15_0) rfl rfl kq) ?_
    show own_Goes _ _ _ _ _ _ _ (s₁.setTop (mkF m 1 #[.val (.ref x0), .unset, .unset, .unset, .unset, .unset, .unset] [(.ref x0)]))
    obtain ⟨T1, X1, e1, st1⟩ := getF X0 hx hZ hown (host := "") (Or.inl (own_at hw 52 rfl)) Via.refl e0 P6 (g := (mkF m 1 #[.val (.ref x0), .unset, .unset, .unset, .unset, .unset, .unset] [(.ref x0)])) rfl rfl (hb hby d15_1)
    refine own_Goes.step st1 ?_
    show own_Goes _ _ _ _ _ _ _ (T1.setTop (mkF m 4 #[.val (.ref x0), .unset, .unset, .unset, .unset, .unset, .unset] [(.int (0 : Int32))]))
    refine own_Goes.step (fun tq kq => XS.ifNo X1.here hx rfl (hb hby d15_4) rfl (XT.i0_ne_f (by decide)) kq) ?_
    show own_Goes _ _ _ _ _ _ _ (T1.setTop (mkF m 7 #[.val (.ref x0), .unset, .unset, .unset, .unset, .unset, .unset] []))
    refine own_Goes.step (fun tq kq => XS.aloadN X1.here hx rfl (hb hby d15_7) rfl rfl kq) ?_
    show own_Goes _ _ _ _ _ _ _ (T1.setTop (mkF m 8 #[.val (.ref x0), .unset, .unset, .unset, .unset, .unset, .unset] [(.ref x0)]))
    obtain ⟨T2, X2, e2, st2⟩ := getF X1 hx hZ hown (host := "") (Or.inl (own_at hw 54 rfl)) Via.refl e1 P7 (g := (mkF m 8 #[.val (.ref x0), .unset, .unset, .unset, .unset, .unset, .unset] [(.ref x0)])) rfl rfl (hb hby d15_8)
    refine own_Goes.step st2 ?_
    show own_Goes _ _ _ _ _ _ _ (T2.setTop (mkF m 11 #[.val (.ref x0), .unset, .unset, .unset, .unset, .unset, .unset] [(.int (1 : Int32))]))
    refine own_Goes.step (fun tq kq => XS.ifYes X2.here hx rfl (pc0 := 11) (pc' := 18) rfl (hb hby d15_11) rfl (XT.i0_ne_t (by decide)) (by decide) (by decide) kq) ?_
    show own_Goes _ _ _ _ _ _ _ (T2.setTop (mkF m 18 #[.val (.ref x0), .unset, .unset, .unset, .unset, .unset, .unset] []))
    refine own_Goes.step (fun tq kq => XT.iconstV X2.here hx rfl (0 : Int32) (hb hby d15_18) (by decide) kq) ?_
    show own_Goes _ _ _ _ _ _ _ (T2.setTop (mkF m 19 #[.val (.ref x0), .unset, .unset, .unset, .unset, .unset, .unset] [(.int (0 : Int32))]))
    refine own_Goes.step (fun tq kq => XS.istoreN X2.here hx rfl (hb hby d15_19) rfl (l' := #[.val (.ref x0), .val (.int (0 : Int32)), .unset, .unset, .unset, .unset, .unset]) rfl kq) ?_
    show own_Goes _ _ _ _ _ _ _ (T2.setTop (mkF m 20 #[.val (.ref x0), .val (.int (0 : Int32)), .unset, .unset, .unset, .unset, .unset] []))
    refine own_Goes.step (fun tq kq => XS.iloadN X2.here hx rfl (hb hby d15_20) rfl kq) ?_
    show own_Goes _ _ _ _ _ _ _ (T2.setTop (mkF m 21 #[.val (.ref x0), .val (.int (0 : Int32)), .unset, .unset, .unset, .unset, .unset] [(.int (0 : Int32))]))
    refine own_Goes.step (fun tq kq => XS.ifNo X2.here hx rfl (hb hby d15_21) rfl (XT.i0_ne_f (by decide)) kq) ?_
    show own_Goes _ _ _ _ _ _ _ (T2.setTop (mkF m 24 #[.val (.ref x0), .val (.int (0 : Int32)), .unset, .unset, .unset, .unset, .unset] []))
    refine own_Goes.step (fun tq kq => XS.aloadN X2.here hx rfl (hb hby d15_24) rfl rfl kq) ?_
    show own_Goes _ _ _ _ _ _ _ (T2.setTop (mkF m 25 #[.val (.ref x0), .val (.int (0 : Int32)), .unset, .unset, .unset, .unset, .unset] [(.ref x0)]))
    obtain ⟨T3, X3, e3, st3⟩ := getF X2 hx hZ hown (host := "") (Or.inl (own_at hw 18 rfl)) Via.refl e2 P3 (g := (mkF m 25 #[.val (.ref x0), .val (.int (0 : Int32)), .unset, .unset, .unset, .unset, .unset] [(.ref x0)])) rfl rfl (hb hby d15_25)
    refine own_Goes.step st3 ?_
    show own_Goes _ _ _ _ _ _ _ (T3.setTop (mkF m 28 #[.val (.ref x0), .val (.int (0 : Int32)), .unset, .unset, .unset, .unset, .unset] [(.ref pA)]))
    refine own_Goes.step (own_alen X3 hx hZ e3 R3 (z := (0 : Int32)) (by decide) (g := (mkF m 28 #[.val (.ref x0), .val (.int (0 : Int32)), .unset, .unset, .unset, .unset, .unset] [(.ref pA)])) rfl rfl (hb hby d15_28)) ?_
    show own_Goes _ _ _ _ _ _ _ (T3.setTop (mkF m 29 #[.val (.ref x0), .val (.int (0 : Int32)), .unset, .unset, .unset, .unset, .unset] [(.int (0 : Int32))]))
    refine own_Goes.step (fun tq kq => XS.aloadN X3.here hx rfl (hb hby d15_29) rfl rfl kq) ?_
    show own_Goes _ _ _ _ _ _ _ (T3.setTop (mkF m 30 #[.val (.ref x0), .val (.int (0 : Int32)), .unset, .unset, .unset, .unset, .unset] [(.ref x0), (.int (0 : Int32))]))
    obtain ⟨T5, X5, e5, st5⟩ := getF X3 hx hZ hown (host := "") (Or.inl (own_at hw 43 rfl)) Via.refl e3 P4 (g := (mkF m 30 #[.val (.ref x0), .val (.int (0 : Int32)), .unset, .unset, .unset, .unset, .unset] [(.ref x0), (.int (0 : Int32))])) rfl rfl (hb hby d15_30)
    refine own_Goes.step st5 ?_
    show own_Goes _ _ _ _ _ _ _ (T5.setTop (mkF m 33 #[.val (.ref x0), .val (.int (0 : Int32)), .unset, .unset, .unset, .unset, .unset] [(.int (1 : Int32)), (.int (0 : Int32))]))
    refine own_Goes.step (fun tq kq => XS.icmpNo X5.here hx rfl (hb hby d15_33) rfl (XT.ii_ge_f (by decide)) kq) ?_
    show own_Goes _ _ _ _ _ _ _ (T5.setTop (mkF m 36 #[.val (.ref x0), .val (.int (0 : Int32)), .unset, .unset, .unset, .unset, .unset] []))
    refine own_Goes.step (fun tq kq => XS.aloadN X5.here hx rfl (hb hby d15_36) rfl rfl kq) ?_
    show own_Goes _ _ _ _ _ _ _ (T5.setTop (mkF m 37 #[.val (.ref x0), .val (.int (0 : Int32)), .unset, .unset, .unset, .unset, .unset] [(.ref x0)]))
    refine own_Goes.step (fun tq kq => XS.aloadN X5.here hx rfl (hb hby d15_37) rfl rfl kq) ?_
    show own_Goes _ _ _ _ _ _ _ (T5.setTop (mkF m 38 #[.val (.ref x0), .val (.int (0 : Int32)), .unset, .unset, .unset, .unset, .unset] [(.ref x0), (.ref x0)]))
    obtain ⟨T6, X6, e6, st6⟩ := getF X5 hx hZ hown (host := "") (Or.inl (own_at hw 10 rfl)) Via.refl e5 P0 (g := (mkF m 38 #[.val (.ref x0), .val (.int (0 : Int32)), .unset, .unset, .unset, .unset, .unset] [(.ref x0), (.ref x0)])) rfl rfl (hb hby d15_38)
    refine own_Goes.step st6 ?_
    show own_Goes _ _ _ _ _ _ _ (T6.setTop (mkF m 41 #[.val (.ref x0), .val (.int (0 : Int32)), .unset, .unset, .unset, .unset, .unset] [(.ref kA), (.ref x0)]))
    refine own_Goes.step (own_alen X6 hx hZ e6 R0 (z := (16 : Int32)) (by decide) (g := (mkF m 41 #[.val (.ref x0), .val (.int (0 : Int32)), .unset, .unset, .unset, .unset, .unset] [(.ref kA), (.ref x0)])) rfl rfl (hb hby d15_41)) ?_
    show own_Goes _ _ _ _ _ _ _ (T6.setTop (mkF m 42 #[.val (.ref x0), .val (.int (0 : Int32)), .unset, .unset, .unset, .unset, .unset] [(.int (16 : Int32)), (.ref x0)]))
    obtain ⟨T8, h8, k8, X8, e8, E8, A8, st8⟩ := newP X6 hx hZ (own_at hw 17 rfl) e6 (g := (mkF m 42 #[.val (.ref x0), .val (.int (0 : Int32)), .unset, .unset, .unset, .unset, .unset] [(.int (16 : Int32)), (.ref x0)])) rfl (hb hby d15_42) rfl (by decide) (cap := 16) (by decide) (by decide) (by decide) (by decide)
    obtain ⟨a8, g8⟩ : ∃ z, z = h0.size := ⟨_, rfl⟩
    rw [← g8] at A8 st8
    have ne9 : x0 ≠ a8 := by rw [g8]; exact Nat.ne_of_lt E0.lt
    have ne10 : kA ≠ a8 := by rw [g8]; exact Nat.ne_of_lt R0.lt
    have ne11 : sA ≠ a8 := by rw [g8]; exact Nat.ne_of_lt R1.lt
    have ne12 : dA ≠ a8 := by rw [g8]; exact Nat.ne_of_lt R2.lt
    have ne13 : pA ≠ a8 := by rw [g8]; exact Nat.ne_of_lt R3.lt
    have f14 := Jvm.RoadKit.Exa.ext E8 E0
    have f15 := Jvm.RoadKit.Fld.ext E8 P0
    have f16 := Jvm.RoadKit.Fld.ext E8 P1
    have f17 := Jvm.RoadKit.Fld.ext E8 P2
    have f18 := Jvm.RoadKit.Fld.ext E8 P3
    have f19 := Jvm.RoadKit.Fld.ext E8 P4
    have f20 := Jvm.RoadKit.Fld.ext E8 P5
    have f21 := Jvm.RoadKit.Fld.ext E8 P6
    have f22 := Jvm.RoadKit.Fld.ext E8 P7
    have f23 := Jvm.RoadKit.Fld.ext E8 P8
    have f24 := Jvm.RoadKit.Fld.ext E8 P9
    have f25 := Jvm.RoadKit.Fld.ext E8 P10
    have f26 := R0.ext E8
    have f27 := R1.ext E8
    have f28 := R2.ext E8
    have f29 := R3.ext E8
    have r8 : own_Ar Z h8 a8 .int 16 (fun uu => .int ((fun _ => (0 : Int32)) uu)) := own_Ar.new A8
    have ga8 : n0 ≤ a8 := Nat.le_trans Z0 (Nat.le_of_eq g8.symm)
    have Z8 : n0 ≤ h8.size := Nat.le_trans Z0 E8.1
    have K8 := K0.ext E8
    have Kh8 : h0.size ≤ a8 := Nat.le_trans K0.1 (Nat.le_of_eq g8.symm)
    refine own_Goes.step st8 ?_
    show own_Goes _ _ _ _ _ _ _ (T8.setTop (mkF m 44 #[.val (.ref x0), .val (.int (0 : Int32)), .unset, .unset, .unset, .unset, .unset] [(.ref a8), (.ref x0)]))
    obtain ⟨T30, h30, X30, e30, W30, st30⟩ := putF X8 hx hZ hown (host := "") (Or.inl (own_at hw 18 rfl)) Via.refl e8 (v := (.ref a8)) f18 f14 (Or.inl (own_at hw 19 rfl)) (own_at hw 1 rfl) (ty := (.array .int)) (by decide) rfl rfl (g := (mkF m 44 #[.val (.ref x0), .val (.int (0 : Int32)), .unset, .unset, .unset, .unset, .unset] [(.ref a8), (.ref x0)])) rfl rfl (hb hby d15_44)
    refine own_Goes.step st30 ?_
    have f31 := f14.wr W30
    have f32 := f15.other W30 (Or.inr (slot_ne (Or.inl (own_at hw 11 rfl)) (Or.inl (own_at hw 19 rfl)) (by decide) (t := (.array .long)) (t' := (.array .int)) (by decide) (by decide)))
    have f33 := f16.other W30 (Or.inr (slot_ne (Or.inl (own_at hw 13 rfl)) (Or.inl (own_at hw 19 rfl)) (by decide) (t := (.array .long)) (t' := (.array .int)) (by decide) (by decide)))
    have f34 := f17.other W30 (Or.inr (slot_ne (Or.inl (own_at hw 16 rfl)) (Or.inl (own_at hw 19 rfl)) (by decide) (t := (.array .boolean)) (t' := (.array .int)) (by decide) (by decide)))
    have f35 := f18.same W30
    have f36 := f19.other W30 (Or.inr (slot_ne (Or.inl (own_at hw 44 rfl)) (Or.inl (own_at hw 19 rfl)) (by decide) (t := .int) (t' := (.array .int)) (by decide) (by decide)))
    have f37 := f20.other W30 (Or.inr (slot_ne (Or.inl (own_at hw 51 rfl)) (Or.inl (own_at hw 19 rfl)) (by decide) (t := .long) (t' := (.array .int)) (by decide) (by decide)))
    have f38 := f21.other W30 (Or.inr (slot_ne (Or.inl (own_at hw 53 rfl)) (Or.inl (own_at hw 19 rfl)) (by decide) (t := .boolean) (t' := (.array .int)) (by decide) (by decide)))
    have f39 := f22.other W30 (Or.inr (slot_ne (Or.inl (own_at hw 55 rfl)) (Or.inl (own_at hw 19 rfl)) (by decide) (t := .boolean) (t' := (.array .int)) (by decide) (by decide)))
    have f40 := f23.other W30 (Or.inr (slot_ne (Or.inl (own_at hw 62 rfl)) (Or.inl (own_at hw 19 rfl)) (by decide) (t := (.array .int)) (t' := (.array .int)) (by decide) (by decide)))
    have f41 := f24.other W30 (Or.inr (slot_ne (Or.inl (own_at hw 69 rfl)) (Or.inl (own_at hw 19 rfl)) (by decide) (t := .int) (t' := (.array .int)) (by decide) (by decide)))
    have f42 := f25.other W30 (Or.inr (slot_ne (Or.inl (own_at hw 21 rfl)) (Or.inl (own_at hw 19 rfl)) (by decide) (t := .int) (t' := (.array .int)) (by decide) (by decide)))
    have f43 := f26.other W30 (Ne.symm n1)
    have f44 := f27.other W30 (Ne.symm n2)
    have f45 := f28.other W30 (Ne.symm n3)
    have f46 := f29.other W30 (Ne.symm n4)
    have f47 := r8.other W30 (Ne.symm ne9)
    have K48 := K8.wr W30 (Or.inl (List.mem_of_getElem? (i := 0) rfl))
    have N49 := Fr.snoc X30 N0 gw0
    have Z50 : n0 ≤ h30.size := Nat.le_trans Z8 (Keep.of_wr W30).1
    show own_Goes _ _ _ _ _ _ _ (T30.setTop (mkF m 47 #[.val (.ref x0), .val (.int (0 : Int32)), .unset, .unset, .unset, .unset, .unset] []))
    refine own_Goes.step (fun tq kq => XS.aloadN X30.here hx rfl (hb hby d15_47) rfl rfl kq) ?_
    show own_Goes _ _ _ _ _ _ _ (T30.setTop (mkF m 48 #[.val (.ref x0), .val (.int (0 : Int32)), .unset, .unset, .unset, .unset, .unset] [(.ref x0)]))
    obtain ⟨T51, X51, e51, st51⟩ := getF X30 hx hZ hown (host := "") (Or.inl (own_at hw 43 rfl)) Via.refl e30 f36 (g := (mkF m 48 #[.val (.ref x0), .val (.int (0 : Int32)), .unset, .unset, .unset, .unset, .unset] [(.ref x0)])) rfl rfl (hb hby d15_48)
    refine own_Goes.step st51 ?_
    show own_Goes _ _ _ _ _ _ _ (T51.setTop (mkF m 51 #[.val (.ref x0), .val (.int (0 : Int32)), .unset, .unset, .unset, .unset, .unset] [(.int (1 : Int32))]))
    obtain ⟨T52, h52, k52, X52, e52, E52, A52, st52⟩ := newP X51 hx hZ (own_at hw 9 rfl) e51 (g := (mkF m 51 #[.val (.ref x0), .val (.int (0 : Int32)), .unset, .unset, .unset, .unset, .unset] [(.int (1 : Int32))])) rfl (hb hby d15_51) rfl (by decide) (cap := 1) (by decide) (by decide) (by decide) (by decide)
    obtain ⟨a52, g52⟩ : ∃ z, z = h30.size := ⟨_, rfl⟩
    rw [← g52] at A52 st52
    have ne53 : x0 ≠ a52 := by rw [g52]; exact Nat.ne_of_lt f31.lt
    have ne54 : kA ≠ a52 := by rw [g52]; exact Nat.ne_of_lt f43.lt
    have ne55 : sA ≠ a52 := by rw [g52]; exact Nat.ne_of_lt f44.lt
    have ne56 : dA ≠ a52 := by rw [g52]; exact Nat.ne_of_lt f45.lt
    have ne57 : pA ≠ a52 := by rw [g52]; exact Nat.ne_of_lt f46.lt
    have ne58 : a8 ≠ a52 := by rw [g52]; exact Nat.ne_of_lt f47.lt
    have f59 := Jvm.RoadKit.Exa.ext E52 f31
    have f60 := Jvm.RoadKit.Fld.ext E52 f32
    have f61 := Jvm.RoadKit.Fld.ext E52 f33
    have f62 := Jvm.RoadKit.Fld.ext E52 f34
    have f63 := Jvm.RoadKit.Fld.ext E52 f35
    have f64 := Jvm.RoadKit.Fld.ext E52 f36
    have f65 := Jvm.RoadKit.Fld.ext E52 f37
    have f66 := Jvm.RoadKit.Fld.ext E52 f38
    have f67 := Jvm.RoadKit.Fld.ext E52 f39
    have f68 := Jvm.RoadKit.Fld.ext E52 f40
    have f69 := Jvm.RoadKit.Fld.ext E52 f41
    have f70 := Jvm.RoadKit.Fld.ext E52 f42
    have f71 := f43.ext E52
    have f72 := f44.ext E52
    have f73 := f45.ext E52
    have f74 := f46.ext E52
    have f75 := f47.ext E52
    have r52 : own_Ar Z h52 a52 .long 1 (fun uu => .long ((fun _ => (0 : Int64)) uu)) := own_Ar.new A52
    have ga52 : n0 ≤ a52 := Nat.le_trans Z50 (Nat.le_of_eq g52.symm)
    have Z52 : n0 ≤ h52.size := Nat.le_trans Z50 E52.1
    have K52 := K48.ext E52
    have Kh52 : h0.size ≤ a52 := Nat.le_trans K48.1 (Nat.le_of_eq g52.symm)
    refine own_Goes.step st52 ?_
    show own_Goes _ _ _ _ _ _ _ (T52.setTop (mkF m 53 #[.val (.ref x0), .val (.int (0 : Int32)), .unset, .unset, .unset, .unset, .unset] [(.ref a52)]))
    refine own_Goes.step (fun tq kq => XS.astoreN X52.here hx rfl (hb hby d15_53) rfl rfl (l' := #[.val (.ref x0), .val (.int (0 : Int32)), .val (.ref a52), .unset, .unset, .unset, .unset]) rfl kq) ?_
    show own_Goes _ _ _ _ _ _ _ (T52.setTop (mkF m 54 #[.val (.ref x0), .val (.int (0 : Int32)), .val (.ref a52), .unset, .unset, .unset, .unset] []))
    refine own_Goes.step (fun tq kq => XS.aloadN X52.here hx rfl (hb hby d15_54) rfl rfl kq) ?_
    show own_Goes _ _ _ _ _ _ _ (T52.setTop (mkF m 55 #[.val (.ref x0), .val (.int (0 : Int32)), .val (.ref a52), .unset, .unset, .unset, .unset] [(.ref x0)]))
    obtain ⟨T76, X76, e76, st76⟩ := getF X52 hx hZ hown (host := "") (Or.inl (own_at hw 10 rfl)) Via.refl e52 f60 (g := (mkF m 55 #[.val (.ref x0), .val (.int (0 : Int32)), .val (.ref a52), .unset, .unset, .unset, .unset] [(.ref x0)])) rfl rfl (hb hby d15_55)
    refine own_Goes.step st76 ?_
    show own_Goes _ _ _ _ _ _ _ (T76.setTop (mkF m 58 #[.val (.ref x0), .val (.int (0 : Int32)), .val (.ref a52), .unset, .unset, .unset, .unset] [(.ref kA)]))
    refine own_Goes.step (fun tq kq => XS.aloadN X76.here hx rfl (hb hby d15_58) rfl rfl kq) ?_
    show own_Goes _ _ _ _ _ _ _ (T76.setTop (mkF m 59 #[.val (.ref x0), .val (.int (0 : Int32)), .val (.ref a52), .unset, .unset, .unset, .unset] [(.ref x0), (.ref kA)]))
    obtain ⟨T77, X77, e77, st77⟩ := getF X76 hx hZ hown (host := "") (Or.inl (own_at hw 43 rfl)) Via.refl e76 f64 (g := (mkF m 59 #[.val (.ref x0), .val (.int (0 : Int32)), .val (.ref a52), .unset, .unset, .unset, .unset] [(.ref x0), (.ref kA)])) rfl rfl (hb hby d15_59)
    refine own_Goes.step st77 ?_
    show own_Goes _ _ _ _ _ _ _ (T77.setTop (mkF m 62 #[.val (.ref x0), .val (.int (0 : Int32)), .val (.ref a52), .unset, .unset, .unset, .unset] [(.int (1 : Int32)), (.ref kA)]))
    refine own_Goes.step (fun tq kq => XS.aloadN X77.here hx rfl (hb hby d15_62) rfl rfl kq) ?_
    show own_Goes _ _ _ _ _ _ _ (T77.setTop (mkF m 63 #[.val (.ref x0), .val (.int (0 : Int32)), .val (.ref a52), .unset, .unset, .unset, .unset] [(.ref a52), (.int (1 : Int32)), (.ref kA)]))
    refine own_Goes.step (fun tq kq => XS.iloadN X77.here hx rfl (hb hby d15_63) rfl kq) ?_
    show own_Goes _ _ _ _ _ _ _ (T77.setTop (mkF m 64 #[.val (.ref x0), .val (.int (0 : Int32)), .val (.ref a52), .unset, .unset, .unset, .unset] [(.int (0 : Int32)), (.ref a52), (.int (1 : Int32)), (.ref kA)]))
    refine own_Goes.step (fun tq kq => XS.ifYes X77.here hx rfl (pc0 := 64) (pc' := 71) rfl (hb hby d15_64) rfl (XT.i0_eq_t (by decide)) (by decide) (by decide) kq) ?_
    show own_Goes _ _ _ _ _ _ _ (T77.setTop (mkF m 71 #[.val (.ref x0), .val (.int (0 : Int32)), .val (.ref a52), .unset, .unset, .unset, .unset] [(.ref a52), (.int (1 : Int32)), (.ref kA)]))
    refine own_Goes.step (fun tq kq => XS.aloadN X77.here hx rfl (hb hby d15_71) rfl rfl kq) ?_
    show own_Goes _ _ _ _ _ _ _ (T77.setTop (mkF m 72 #[.val (.ref x0), .val (.int (0 : Int32)), .val (.ref a52), .unset, .unset, .unset, .unset] [(.ref x0), (.ref a52), (.int (1 : Int32)), (.ref kA)]))
    obtain ⟨T78, X78, e78, st78⟩ := getF X77 hx hZ hown (host := "") (Or.inl (own_at hw 18 rfl)) Via.refl e77 f63 (g := (mkF m 72 #[.val (.ref x0), .val (.int (0 : Int32)), .val (.ref a52), .unset, .unset, .unset, .unset] [(.ref x0), (.ref a52), (.int (1 : Int32)), (.ref kA)])) rfl rfl (hb hby d15_72)
    refine own_Goes.step st78 ?_
    show own_Goes _ _ _ _ _ _ _ (T78.setTop (mkF m 75 #[.val (.ref x0), .val (.int (0 : Int32)), .val (.ref a52), .unset, .unset, .unset, .unset] [(.ref a8), (.ref a52), (.int (1 : Int32)), (.ref kA)]))
    obtain ⟨w79, T79, L79, q79, Y79, st79⟩ := own_stat X78 hx hZ e78 hown (own_at hw 103 rfl) (own_at hw 104 rfl) (own_at hw 105 rfl) (own_at hw 106 rfl) (by decide) (own_m16o l Z a0 hw [] kA a52 a8 K (fun _ => (0 : Int64)) (fun _ => (0 : Int32)) n0 h52 Z52 f71 r52 ne54 ga52 f75 ne10 (Ne.symm ne58) ga8) (by decide) (W := 0) (by decide) (by decide) (by decide) (g := (mkF m 75 #[.val (.ref x0), .val (.int (0 : Int32)), .val (.ref a52), .unset, .unset, .unset, .unset] [(.ref a8), (.ref a52), (.int (1 : Int32)), (.ref kA)])) rfl (by rw [hml]; rfl) (argsL := [(.ref kA), (.int (1 : Int32)), (.ref a52), (.ref a8)]) (rest := []) (lenOf pd_16 rfl) rfl (by show 2 * 0 + _ ≤ _; exact Nat.le_of_eq rfl) (hb hby d15_75)
    obtain ⟨rfl, N79, K79, U79, V79⟩ := q79
    have Nn79 := Fr.app N49 N79
    have Kn79 := K52.trans K79 (own_kt2b (Or.inr Kh52) (Or.inr Kh8))
    have Zn79 : n0 ≤ T79.heap.size := Nat.le_trans Z52 K79.1
    have f80 := f59.keep K79
    have f81 := f60.keep K79 (own_nin2 ne53 ne9)
    have f82 := f61.keep K79 (own_nin2 ne53 ne9)
    have f83 := f62.keep K79 (own_nin2 ne53 ne9)
    have f84 := f63.keep K79 (own_nin2 ne53 ne9)
    have f85 := f64.keep K79 (own_nin2 ne53 ne9)
    have f86 := f65.keep K79 (own_nin2 ne53 ne9)
    have f87 := f66.keep K79 (own_nin2 ne53 ne9)
    have f88 := f67.keep K79 (own_nin2 ne53 ne9)
    have f89 := f68.keep K79 (own_nin2 ne53 ne9)
    have f90 := f69.keep K79 (own_nin2 ne53 ne9)
    have f91 := f70.keep K79 (own_nin2 ne53 ne9)
    have f92 := f71.keep K79 (own_nin2 ne54 ne10)
    have f93 := f72.keep K79 (own_nin2 ne55 ne11)
    have f94 := f73.keep K79 (own_nin2 ne56 ne12)
    have f95 := f74.keep K79 (own_nin2 ne57 ne13)
    refine own_Goes.step st79 ?_
    show own_Goes _ _ _ _ _ _ _ (T79.setTop (mkF m 78 #[.val (.ref x0), .val (.int (0 : Int32)), .val (.ref a52), .unset, .unset, .unset, .unset] []))
    refine own_Goes.step (fun tq kq => XS.aloadN Y79.here hx rfl (hb hby d15_78) rfl rfl kq) ?_
    show own_Goes _ _ _ _ _ _ _ (T79.setTop (mkF m 79 #[.val (.ref x0), .val (.int (0 : Int32)), .val (.ref a52), .unset, .unset, .unset, .unset] [(.ref x0)]))
    obtain ⟨T96, X96, e96, st96⟩ := getF Y79 hx hZ hown (host := "") (Or.inl (own_at hw 52 rfl)) Via.refl rfl f87 (g := (mkF m 79 #[.val (.ref x0), .val (.int (0 : Int32)), .val (.ref a52), .unset, .unset, .unset, .unset] [(.ref x0)])) rfl rfl (hb hby d15_79)
    refine own_Goes.step st96 ?_
    show own_Goes _ _ _ _ _ _ _ (T96.setTop (mkF m 82 #[.val (.ref x0), .val (.int (0 : Int32)), .val (.ref a52), .unset, .unset, .unset, .unset] [(.int (0 : Int32))]))
    refine own_Goes.step (fun tq kq => XS.ifYes X96.here hx rfl (pc0 := 82) (pc' := 94) rfl (hb hby d15_82) rfl (XT.i0_eq_t (by decide)) (by decide) (by decide) kq) ?_
    show own_Goes _ _ _ _ _ _ _ (T96.setTop (mkF m 94 #[.val (.ref x0), .val (.int (0 : Int32)), .val (.ref a52), .unset, .unset, .unset, .unset] []))
    refine own_Goes.step (fun tq kq => XS.aconstNull X96.here hx rfl (hb hby d15_94) kq) ?_
    show own_Goes _ _ _ _ _ _ _ (T96.setTop (mkF m 95 #[.val (.ref x0), .val (.int (0 : Int32)), .val (.ref a52), .unset, .unset, .unset, .unset] [.null]))
    refine own_Goes.step (fun tq kq => XS.astoreN X96.here hx rfl (hb hby d15_95) rfl rfl (l' := #[.val (.ref x0), .val (.int (0 : Int32)), .val (.ref a52), .val .null, .unset, .unset, .unset]) rfl kq) ?_
    show own_Goes _ _ _ _ _ _ _ (T96.setTop (mkF m 96 #[.val (.ref x0), .val (.int (0 : Int32)), .val (.ref a52), .val .null, .unset, .unset, .unset] []))
    refine own_Goes.step (fun tq kq => XS.aloadN X96.here hx rfl (hb hby d15_96) rfl rfl kq) ?_
    show own_Goes _ _ _ _ _ _ _ (T96.setTop (mkF m 97 #[.val (.ref x0), .val (.int (0 : Int32)), .val (.ref a52), .val .null, .unset, .unset, .unset] [(.ref x0)]))
    obtain ⟨T97, X97, e97, st97⟩ := getF X96 hx hZ hown (host := "") (Or.inl (own_at hw 54 rfl)) Via.refl e96 f88 (g := (mkF m 97 #[.val (.ref x0), .val (.int (0 : Int32)), .val (.ref a52), .val .null, .unset, .unset, .unset] [(.ref x0)])) rfl rfl (hb hby d15_97)
    refine own_Goes.step st97 ?_
    show own_Goes _ _ _ _ _ _ _ (T97.setTop (mkF m 100 #[.val (.ref x0), .val (.int (0 : Int32)), .val (.ref a52), .val .null, .unset, .unset, .unset] [(.int (1 : Int32))]))
    refine own_Goes.step (fun tq kq => XS.ifNo X97.here hx rfl (hb hby d15_100) rfl (XT.i0_eq_f (by decide)) kq) ?_
    show own_Goes _ _ _ _ _ _ _ (T97.setTop (mkF m 103 #[.val (.ref x0), .val (.int (0 : Int32)), .val (.ref a52), .val .null, .unset, .unset, .unset] []))
    refine own_Goes.step (fun tq kq => XS.aloadN X97.here hx rfl (hb hby d15_103) rfl rfl kq) ?_
    show own_Goes _ _ _ _ _ _ _ (T97.setTop (mkF m 104 #[.val (.ref x0), .val (.int (0 : Int32)), .val (.ref a52), .val .null, .unset, .unset, .unset] [(.ref x0)]))
    obtain ⟨T98, X98, e98, st98⟩ := getF X97 hx hZ hown (host := "") (Or.inl (own_at hw 43 rfl)) Via.refl e97 f85 (g := (mkF m 104 #[.val (.ref x0), .val (.int (0 : Int32)), .val (.ref a52), .val .null, .unset, .unset, .unset] [(.ref x0)])) rfl rfl (hb hby d15_104)
    refine own_Goes.step st98 ?_
    show own_Goes _ _ _ _ _ _ _ (T98.setTop (mkF m 107 #[.val (.ref x0), .val (.int (0 : Int32)), .val (.ref a52), .val .null, .unset, .unset, .unset] [(.int (1 : Int32))]))
    obtain ⟨T99, h99, k99, X99, e99, E99, A99, st99⟩ := newP X98 hx hZ (own_at hw 14 rfl) e98 (g := (mkF m 107 #[.val (.ref x0), .val (.int (0 : Int32)), .val (.ref a52), .val .null, .unset, .unset, .unset] [(.int (1 : Int32))])) rfl (hb hby d15_107) rfl (by decide) (cap := 1) (by decide) (by decide) (by decide) (by decide)
    obtain ⟨a99, g99⟩ : ∃ z, z = T79.heap.size := ⟨_, rfl⟩
    rw [← g99] at A99 st99
    have ne100 : x0 ≠ a99 := by rw [g99]; exact Nat.ne_of_lt f80.lt
    have ne101 : kA ≠ a99 := by rw [g99]; exact Nat.ne_of_lt f92.lt
    have ne102 : sA ≠ a99 := by rw [g99]; exact Nat.ne_of_lt f93.lt
    have ne103 : dA ≠ a99 := by rw [g99]; exact Nat.ne_of_lt f94.lt
    have ne104 : pA ≠ a99 := by rw [g99]; exact Nat.ne_of_lt f95.lt
    have ne105 : a52 ≠ a99 := by rw [g99]; exact Nat.ne_of_lt U79.lt
    have ne106 : a8 ≠ a99 := by rw [g99]; exact Nat.ne_of_lt V79.lt
    have f107 := Jvm.RoadKit.Exa.ext E99 f80
    have f108 := Jvm.RoadKit.Fld.ext E99 f81
    have f109 := Jvm.RoadKit.Fld.ext E99 f82
    have f110 := Jvm.RoadKit.Fld.ext E99 f83
    have f111 := Jvm.RoadKit.Fld.ext E99 f84
    have f112 := Jvm.RoadKit.Fld.ext E99 f85
    have f113 := Jvm.RoadKit.Fld.ext E99 f86
    have f114 := Jvm.RoadKit.Fld.ext E99 f87
    have f115 := Jvm.RoadKit.Fld.ext E99 f88
    have f116 := Jvm.RoadKit.Fld.ext E99 f89
    have f117 := Jvm.RoadKit.Fld.ext E99 f90
    have f118 := Jvm.RoadKit.Fld.ext E99 f91
    have f119 := f92.ext E99
    have f120 := f93.ext E99
    have f121 := f94.ext E99
    have f122 := f95.ext E99
    have f123 := U79.ext E99
    have f124 := V79.ext E99
    have r99 : own_Ar Z h99 a99 .boolean 1 (fun uu => .int ((fun _ => (0 : Int32)) uu)) := own_Ar.new A99
    have ga99 : n0 ≤ a99 := Nat.le_trans Zn79 (Nat.le_of_eq g99.symm)
    have Z99 : n0 ≤ h99.size := Nat.le_trans Zn79 E99.1
    have K99 := Kn79.ext E99
    have Kh99 : h0.size ≤ a99 := Nat.le_trans Kn79.1 (Nat.le_of_eq g99.symm)
    refine own_Goes.step st99 ?_
    show own_Goes _ _ _ _ _ _ _ (T99.setTop (mkF m 109 #[.val (.ref x0), .val (.int (0 : Int32)), .val (.ref a52), .val .null, .unset, .unset, .unset] [(.ref a99)]))
    refine own_Goes.step (fun tq kq => XS.goto X99.here hx rfl (pc0 := 109) (pc' := 113) rfl (hb hby d15_109) (by decide) (by decide) kq) ?_
    show own_Goes _ _ _ _ _ _ _ (T99.setTop (mkF m 113 #[.val (.ref x0), .val (.int (0 : Int32)), .val (.ref a52), .val .null, .unset, .unset, .unset] [(.ref a99)]))
    refine own_Goes.step (fun tq kq => XS.astore X99.here hx rfl (hb hby d15_113) rfl rfl (l' := #[.val (.ref x0), .val (.int (0 : Int32)), .val (.ref a52), .val .null, .val (.ref a99), .unset, .unset]) rfl kq) ?_
    show own_Goes _ _ _ _ _ _ _ (T99.setTop (mkF m 115 #[.val (.ref x0), .val (.int (0 : Int32)), .val (.ref a52), .val .null, .val (.ref a99), .unset, .unset] []))
    refine own_Goes.step (fun tq kq => XT.iconstV X99.here hx rfl (0 : Int32) (hb hby d15_115) (by decide) kq) ?_
    show own_Goes _ _ _ _ _ _ _ (T99.setTop (mkF m 116 #[.val (.ref x0), .val (.int (0 : Int32)), .val (.ref a52), .val .null, .val (.ref a99), .unset, .unset] [(.int (0 : Int32))]))
    refine own_Goes.step (fun tq kq => XS.istore X99.here hx rfl (hb hby d15_116) rfl (l' := #[.val (.ref x0), .val (.int (0 : Int32)), .val (.ref a52), .val .null, .val (.ref a99), .val (.int (0 : Int32)), .unset]) rfl kq) ?_
    show own_Goes _ _ _ _ _ _ _ (T99.setTop (mkF m 118 #[.val (.ref x0), .val (.int (0 : Int32)), .val (.ref a52), .val .null, .val (.ref a99), .val (.int (0 : Int32)), .unset] []))
    refine own_Goes.step (fun tq kq => XT.iconstV X99.here hx rfl (0 : Int32) (hb hby d15_118) (by decide) kq) ?_
    show own_Goes _ _ _ _ _ _ _ (T99.setTop (mkF m 119 #[.val (.ref x0), .val (.int (0 : Int32)), .val (.ref a52), .val .null, .val (.ref a99), .val (.int (0 : Int32)), .unset] [(.int (0 : Int32))]))
    refine own_Goes.step (fun tq kq => XS.istore X99.here hx rfl (hb hby d15_119) rfl (l' := #[.val (.ref x0), .val (.int (0 : Int32)), .val (.ref a52), .val .null, .val (.ref a99), .val (.int (0 : Int32)), .val (.int (0 : Int32))]) rfl kq) ?_
    show own_Goes _ _ _ _ _ _ _ (T99.setTop (mkF m 121 #[.val (.ref x0), .val (.int (0 : Int32)), .val (.ref a52), .val .null, .val (.ref a99), .val (.int (0 : Int32)), .val (.int (0 : Int32))] []))
    refine own_Goes.step (fun tq kq => XS.iload X99.here hx rfl (hb hby d15_121) rfl kq) ?_
    show own_Goes _ _ _ _ _ _ _ (T99.setTop (mkF m 123 #[.val (.ref x0), .val (.int (0 : Int32)), .val (.ref a52), .val .null, .val (.ref a99), .val (.int (0 : Int32)), .val (.int (0 : Int32))] [(.int (0 : Int32))]))
    refine own_Goes.step (fun tq kq => XS.aloadN X99.here hx rfl (hb hby d15_123) rfl rfl kq) ?_
    show own_Goes _ _ _ _ _ _ _ (T99.setTop (mkF m 124 #[.val (.ref x0), .val (.int (0 : Int32)), .val (.ref a52), .val .null, .val (.ref a99), .val (.int (0 : Int32)), .val (.int (0 : Int32))] [(.ref x0), (.int (0 : Int32))]))
    obtain ⟨T125, X125, e125, st125⟩ := getF X99 hx hZ hown (host := "") (Or.inl (own_at hw 43 rfl)) Via.refl e99 f112 (g := (mkF m 124 #[.val (.ref x0), .val (.int (0 : Int32)), .val (.ref a52), .val .null, .val (.ref a99), .val (.int (0 : Int32)), .val (.int (0 : Int32))] [(.ref x0), (.int (0 : Int32))])) rfl rfl (hb hby d15_124)
    refine own_Goes.step st125 ?_
    show own_Goes _ _ _ _ _ _ _ (T125.setTop (mkF m 127 #[.val (.ref x0), .val (.int (0 : Int32)), .val (.ref a52), .val .null, .val (.ref a99), .val (.int (0 : Int32)), .val (.int (0 : Int32))] [(.int (1 : Int32)), (.int (0 : Int32))]))
    refine own_Goes.step (fun tq kq => XS.icmpNo X125.here hx rfl (hb hby d15_127) rfl (XT.ii_ge_f (by decide)) kq) ?_
    show own_Goes _ _ _ _ _ _ _ (T125.setTop (mkF m 130 #[.val (.ref x0), .val (.int (0 : Int32)), .val (.ref a52), .val .null, .val (.ref a99), .val (.int (0 : Int32)), .val (.int (0 : Int32))] []))
    refine own_Goes.step (fun tq kq => XS.iload X125.here hx rfl (hb hby d15_130) rfl kq) ?_
    show own_Goes _ _ _ _ _ _ _ (T125.setTop (mkF m 132 #[.val (.ref x0), .val (.int (0 : Int32)), .val (.ref a52), .val .null, .val (.ref a99), .val (.int (0 : Int32)), .val (.int (0 : Int32))] [(.int (0 : Int32))]))
    refine own_Goes.step (fun tq kq => XT.iconstV X125.here hx rfl (1 : Int32) (hb hby d15_132) (by decide) kq) ?_
    show own_Goes _ _ _ _ _ _ _ (T125.setTop (mkF m 133 #[.val (.ref x0), .val (.int (0 : Int32)), .val (.ref a52), .val .null, .val (.ref a99), .val (.int (0 : Int32)), .val (.int (0 : Int32))] [(.int (1 : Int32)), (.int (0 : Int32))]))
    refine own_Goes.step (fun tq kq => XS.iadd X125.here hx rfl (hb hby d15_133) rfl kq) ?_
    show own_Goes _ _ _ _ _ _ _ (T125.setTop (mkF m 134 #[.val (.ref x0), .val (.int (0 : Int32)), .val (.ref a52), .val .null, .val (.ref a99), .val (.int (0 : Int32)), .val (.int (0 : Int32))] [(.int (1 : Int32))]))
    refine own_Goes.step (fun tq kq => XS.aloadN X125.here hx rfl (hb hby d15_134) rfl rfl kq) ?_
    show own_Goes _ _ _ _ _ _ _ (T125.setTop (mkF m 135 #[.val (.ref x0), .val (.int (0 : Int32)), .val (.ref a52), .val .null, .val (.ref a99), .val (.int (0 : Int32)), .val (.int (0 : Int32))] [(.ref x0), (.int (1 : Int32))]))
    obtain ⟨T126, X126, e126, st126⟩ := getF X125 hx hZ hown (host := "") (Or.inl (own_at hw 43 rfl)) Via.refl e125 f112 (g := (mkF m 135 #[.val (.ref x0), .val (.int (0 : Int32)), .val (.ref a52), .val .null, .val (.ref a99), .val (.int (0 : Int32)), .val (.int (0 : Int32))] [(.ref x0), (.int (1 : Int32))])) rfl rfl (hb hby d15_135)
    refine own_Goes.step st126 ?_
    show own_Goes _ _ _ _ _ _ _ (T126.setTop (mkF m 138 #[.val (.ref x0), .val (.int (0 : Int32)), .val (.ref a52), .val .null, .val (.ref a99), .val (.int (0 : Int32)), .val (.int (0 : Int32))] [(.int (1 : Int32)), (.int (1 : Int32))]))
    refine own_Goes.step (fun tq kq => XS.icmpYes X126.here hx rfl (pc0 := 138) (pc' := 158) rfl (hb hby d15_138) rfl (XT.ii_ge_t (by decide)) (by decide) (by decide) kq) ?_
    show own_Goes _ _ _ _ _ _ _ (T126.setTop (mkF m 158 #[.val (.ref x0), .val (.int (0 : Int32)), .val (.ref a52), .val .null, .val (.ref a99), .val (.int (0 : Int32)), .val (.int (0 : Int32))] []))
    refine own_Goes.step (fun tq kq => XS.aloadN X126.here hx rfl (hb hby d15_158) rfl rfl kq) ?_
    show own_Goes _ _ _ _ _ _ _ (T126.setTop (mkF m 159 #[.val (.ref x0), .val (.int (0 : Int32)), .val (.ref a52), .val .null, .val (.ref a99), .val (.int (0 : Int32)), .val (.int (0 : Int32))] [(.ref a52)]))
    refine own_Goes.step (fun tq kq => XS.iload X126.here hx rfl (hb hby d15_159) rfl kq) ?_
    show own_Goes _ _ _ _ _ _ _ (T126.setTop (mkF m 161 #[.val (.ref x0), .val (.int (0 : Int32)), .val (.ref a52), .val .null, .val (.ref a99), .val (.int (0 : Int32)), .val (.int (0 : Int32))] [(.int (0 : Int32)), (.ref a52)]))
    refine own_Goes.step (fun tq kq => XS.aloadN X126.here hx rfl (hb hby d15_161) rfl rfl kq) ?_
    show own_Goes _ _ _ _ _ _ _ (T126.setTop (mkF m 162 #[.val (.ref x0), .val (.int (0 : Int32)), .val (.ref a52), .val .null, .val (.ref a99), .val (.int (0 : Int32)), .val (.int (0 : Int32))] [(.ref a52), (.int (0 : Int32)), (.ref a52)]))
    refine own_Goes.step (fun tq kq => XS.iload X126.here hx rfl (hb hby d15_162) rfl kq) ?_
    show own_Goes _ _ _ _ _ _ _ (T126.setTop (mkF m 164 #[.val (.ref x0), .val (.int (0 : Int32)), .val (.ref a52), .val .null, .val (.ref a99), .val (.int (0 : Int32)), .val (.int (0 : Int32))] [(.int (0 : Int32)), (.ref a52), (.int (0 : Int32)), (.ref a52)]))
    refine own_Goes.step (own_lald X126 hx hZ e126 f123 (i := 0) rfl (by decide) (v := (.long ((fun j => if j = 0 then K 0 else (fun _ => (0 : Int64)) j) 0))) rfl (g := (mkF m 164 #[.val (.ref x0), .val (.int (0 : Int32)), .val (.ref a52), .val .null, .val (.ref a99), .val (.int (0 : Int32)), .val (.int (0 : Int32))] [(.int (0 : Int32)), (.ref a52), (.int (0 : Int32)), (.ref a52)])) rfl rfl (hb hby d15_164)) ?_
    show own_Goes _ _ _ _ _ _ _ (T126.setTop (mkF m 165 #[.val (.ref x0), .val (.int (0 : Int32)), .val (.ref a52), .val .null, .val (.ref a99), .val (.int (0 : Int32)), .val (.int (0 : Int32))] [(.long ((fun j => if j = 0 then K 0 else (fun _ => (0 : Int64)) j) 0)), (.int (0 : Int32)), (.ref a52)]))
    obtain ⟨T128, h128, X128, e128, W128, st128⟩ := own_last X126 hx hZ e126 f123 (i := 0) rfl (by decide) (g := (mkF m 165 #[.val (.ref x0), .val (.int (0 : Int32)), .val (.ref a52), .val .null, .val (.ref a99), .val (.int (0 : Int32)), .val (.int (0 : Int32))] [(.long ((fun j => if j = 0 then K 0 else (fun _ => (0 : Int64)) j) 0)), (.int (0 : Int32)), (.ref a52)])) rfl rfl (hb hby d15_165)
    refine own_Goes.step st128 ?_
    have f129 := f107.wr W128
    have f130 := f108.other W128 (Or.inl ne53)
    have f131 := f109.other W128 (Or.inl ne53)
    have f132 := f110.other W128 (Or.inl ne53)
    have f133 := f111.other W128 (Or.inl ne53)
    have f134 := f112.other W128 (Or.inl ne53)
    have f135 := f113.other W128 (Or.inl ne53)
    have f136 := f114.other W128 (Or.inl ne53)
    have f137 := f115.other W128 (Or.inl ne53)
    have f138 := f116.other W128 (Or.inl ne53)
    have f139 := f117.other W128 (Or.inl ne53)
    have f140 := f118.other W128 (Or.inl ne53)
    have f141 := f119.other W128 ne54
    have f142 := f120.other W128 ne55
    have f143 := f121.other W128 ne56
    have f144 := f122.other W128 ne57
    have f145 : own_Ar Z h128 a52 .long 1 (fun uu => .long ((fun j => if j = 0 then ((fun j => if j = 0 then K 0 else (fun _ => (0 : Int64)) j) 0) else (fun j => if j = 0 then K 0 else (fun _ => (0 : Int64)) j) j) uu)) := (f123.set W128).congr fun j _ => by dsimp only; exact (apply_ite Value.long _ _ _).symm
    have f146 := f124.other W128 ne58
    have f147 := r99.other W128 (Ne.symm ne105)
    have K148 := K99.wr W128 (Or.inr Kh52)
    have N149 := Fr.snoc X128 Nn79 ga52
    have Z150 : n0 ≤ h128.size := Nat.le_trans Z99 (Keep.of_wr W128).1
    show own_Goes _ _ _ _ _ _ _ (T128.setTop (mkF m 166 #[.val (.ref x0), .val (.int (0 : Int32)), .val (.ref a52), .val .null, .val (.ref a99), .val (.int (0 : Int32)), .val (.int (0 : Int32))] []))
    refine own_Goes.step (fun tq kq => XS.aloadN X128.here hx rfl (hb hby d15_166) rfl rfl kq) ?_
    show own_Goes _ _ _ _ _ _ _ (T128.setTop (mkF m 167 #[.val (.ref x0), .val (.int (0 : Int32)), .val (.ref a52), .val .null, .val (.ref a99), .val (.int (0 : Int32)), .val (.int (0 : Int32))] [.null]))
    refine own_Goes.step (fun tq kq => XS.ifnullYes X128.here hx rfl (pc0 := 167) (pc' := 186) rfl (hb hby d15_167) rfl (by decide) (by decide) kq) ?_
    show own_Goes _ _ _ _ _ _ _ (T128.setTop (mkF m 186 #[.val (.ref x0), .val (.int (0 : Int32)), .val (.ref a52), .val .null, .val (.ref a99), .val (.int (0 : Int32)), .val (.int (0 : Int32))] []))
    refine own_Goes.step (fun tq kq => XS.aload X128.here hx rfl (hb hby d15_186) rfl rfl kq) ?_
    show own_Goes _ _ _ _ _ _ _ (T128.setTop (mkF m 188 #[.val (.ref x0), .val (.int (0 : Int32)), .val (.ref a52), .val .null, .val (.ref a99), .val (.int (0 : Int32)), .val (.int (0 : Int32))] [(.ref a99)]))
    refine own_Goes.step (fun tq kq => XS.ifnullNo X128.here hx rfl (hb hby d15_188) rfl kq) ?_
    show own_Goes _ _ _ _ _ _ _ (T128.setTop (mkF m 191 #[.val (.ref x0), .val (.int (0 : Int32)), .val (.ref a52), .val .null, .val (.ref a99), .val (.int (0 : Int32)), .val (.int (0 : Int32))] []))
    refine own_Goes.step (fun tq kq => XS.aload X128.here hx rfl (hb hby d15_191) rfl rfl kq) ?_
    show own_Goes _ _ _ _ _ _ _ (T128.setTop (mkF m 193 #[.val (.ref x0), .val (.int (0 : Int32)), .val (.ref a52), .val .null, .val (.ref a99), .val (.int (0 : Int32)), .val (.int (0 : Int32))] [(.ref a99)]))
    refine own_Goes.step (fun tq kq => XS.iload X128.here hx rfl (hb hby d15_193) rfl kq) ?_
    show own_Goes _ _ _ _ _ _ _ (T128.setTop (mkF m 195 #[.val (.ref x0), .val (.int (0 : Int32)), .val (.ref a52), .val .null, .val (.ref a99), .val (.int (0 : Int32)), .val (.int (0 : Int32))] [(.int (0 : Int32)), (.ref a99)]))
    refine own_Goes.step (fun tq kq => XS.aloadN X128.here hx rfl (hb hby d15_195) rfl rfl kq) ?_
    show own_Goes _ _ _ _ _ _ _ (T128.setTop (mkF m 196 #[.val (.ref x0), .val (.int (0 : Int32)), .val (.ref a52), .val .null, .val (.ref a99), .val (.int (0 : Int32)), .val (.int (0 : Int32))] [(.ref x0), (.int (0 : Int32)), (.ref a99)]))
    obtain ⟨T153, X153, e153, st153⟩ := getF X128 hx hZ hown (host := "") (Or.inl (own_at hw 15 rfl)) Via.refl e128 f132 (g := (mkF m 196 #[.val (.ref x0), .val (.int (0 : Int32)), .val (.ref a52), .val .null, .val (.ref a99), .val (.int (0 : Int32)), .val (.int (0 : Int32))] [(.ref x0), (.int (0 : Int32)), (.ref a99)])) rfl rfl (hb hby d15_196)
    refine own_Goes.step st153 ?_
    show own_Goes _ _ _ _ _ _ _ (T153.setTop (mkF m 199 #[.val (.ref x0), .val (.int (0 : Int32)), .val (.ref a52), .val .null, .val (.ref a99), .val (.int (0 : Int32)), .val (.int (0 : Int32))] [(.ref dA), (.int (0 : Int32)), (.ref a99)]))
    refine own_Goes.step (fun tq kq => XS.aloadN X153.here hx rfl (hb hby d15_199) rfl rfl kq) ?_
    show own_Goes _ _ _ _ _ _ _ (T153.setTop (mkF m 200 #[.val (.ref x0), .val (.int (0 : Int32)), .val (.ref a52), .val .null, .val (.ref a99), .val (.int (0 : Int32)), .val (.int (0 : Int32))] [(.ref x0), (.ref dA), (.int (0 : Int32)), (.ref a99)]))
    obtain ⟨T154, X154, e154, st154⟩ := getF X153 hx hZ hown (host := "") (Or.inl (own_at hw 18 rfl)) Via.refl e153 f133 (g := (mkF m 200 #[.val (.ref x0), .val (.int (0 : Int32)), .val (.ref a52), .val .null, .val (.ref a99), .val (.int (0 : Int32)), .val (.int (0 : Int32))] [(.ref x0), (.ref dA), (.int (0 : Int32)), (.ref a99)])) rfl rfl (hb hby d15_200)
    refine own_Goes.step st154 ?_
    show own_Goes _ _ _ _ _ _ _ (T154.setTop (mkF m 203 #[.val (.ref x0), .val (.int (0 : Int32)), .val (.ref a52), .val .null, .val (.ref a99), .val (.int (0 : Int32)), .val (.int (0 : Int32))] [(.ref a8), (.ref dA), (.int (0 : Int32)), (.ref a99)]))
    refine own_Goes.step (fun tq kq => XS.iload X154.here hx rfl (hb hby d15_203) rfl kq) ?_
    show own_Goes _ _ _ _ _ _ _ (T154.setTop (mkF m 205 #[.val (.ref x0), .val (.int (0 : Int32)), .val (.ref a52), .val .null, .val (.ref a99), .val (.int (0 : Int32)), .val (.int (0 : Int32))] [(.int (0 : Int32)), (.ref a8), (.ref dA), (.int (0 : Int32)), (.ref a99)]))
    refine own_Goes.step (own_iald X154 hx hZ e154 f146 (i := 0) rfl (by decide) (v := (.int ((fun j => if j = 0 then (0 : Int32) else (fun _ => (0 : Int32)) j) 0))) rfl (g := (mkF m 205 #[.val (.ref x0), .val (.int (0 : Int32)), .val (.ref a52), .val .null, .val (.ref a99), .val (.int (0 : Int32)), .val (.int (0 : Int32))] [(.int (0 : Int32)), (.ref a8), (.ref dA), (.int (0 : Int32)), (.ref a99)])) rfl rfl (hb hby d15_205)) ?_
    show own_Goes _ _ _ _ _ _ _ (T154.setTop (mkF m 206 #[.val (.ref x0), .val (.int (0 : Int32)), .val (.ref a52), .val .null, .val (.ref a99), .val (.int (0 : Int32)), .val (.int (0 : Int32))] [(.int ((fun j => if j = 0 then (0 : Int32) else (fun _ => (0 : Int32)) j) 0)), (.ref dA), (.int (0 : Int32)), (.ref a99)]))
    refine own_Goes.step (own_zald X154 hx hZ e154 f143 (i := 0) rfl (by decide) (v := (.int (D 0))) rfl (g := (mkF m 206 #[.val (.ref x0), .val (.int (0 : Int32)), .val (.ref a52), .val .null, .val (.ref a99), .val (.int (0 : Int32)), .val (.int (0 : Int32))] [(.int ((fun j => if j = 0 then (0 : Int32) else (fun _ => (0 : Int32)) j) 0)), (.ref dA), (.int (0 : Int32)), (.ref a99)])) rfl rfl (hb hby d15_206)) ?_
    show own_Goes _ _ _ _ _ _ _ (T154.setTop (mkF m 207 #[.val (.ref x0), .val (.int (0 : Int32)), .val (.ref a52), .val .null, .val (.ref a99), .val (.int (0 : Int32)), .val (.int (0 : Int32))] [(.int (D 0)), (.int (0 : Int32)), (.ref a99)]))
    obtain ⟨T157, h157, X157, e157, W157, st157⟩ := own_zast X154 hx hZ e154 f147 (i := 0) rfl (by decide) (g := (mkF m 207 #[.val (.ref x0), .val (.int (0 : Int32)), .val (.ref a52), .val .null, .val (.ref a99), .val (.int (0 : Int32)), .val (.int (0 : Int32))] [(.int (D 0)), (.int (0 : Int32)), (.ref a99)])) rfl rfl (hb hby d15_207)
    refine own_Goes.step st157 ?_
    have f158 := f129.wr W157
    have f159 := f130.other W157 (Or.inl ne100)
    have f160 := f131.other W157 (Or.inl ne100)
    have f161 := f132.other W157 (Or.inl ne100)
    have f162 := f133.other W157 (Or.inl ne100)
    have f163 := f134.other W157 (Or.inl ne100)
    have f164 := f135.other W157 (Or.inl ne100)
    have f165 := f136.other W157 (Or.inl ne100)
    have f166 := f137.other W157 (Or.inl ne100)
    have f167 := f138.other W157 (Or.inl ne100)
    have f168 := f139.other W157 (Or.inl ne100)
    have f169 := f140.other W157 (Or.inl ne100)
    have f170 := f141.other W157 ne101
    have f171 := f142.other W157 ne102
    have f172 := f143.other W157 ne103
    have f173 := f144.other W157 ne104
    have f174 := f145.other W157 ne105
    have f175 := f146.other W157 ne106
    have f176 : own_Ar Z h157 a99 .boolean 1 (fun uu => .int ((fun j => if j = 0 then (nar .boolean (D 0)) else (fun _ => (0 : Int32)) j) uu)) := (f147.set W157).congr fun j _ => by dsimp only; exact (apply_ite Value.int _ _ _).symm
    have K177 := K148.wr W157 (Or.inr Kh99)
    have N178 := Fr.snoc X157 N149 ga99
    have Z179 : n0 ≤ h157.size := Nat.le_trans Z150 (Keep.of_wr W157).1
    show own_Goes _ _ _ _ _ _ _ (T157.setTop (mkF m 208 #[.val (.ref x0), .val (.int (0 : Int32)), .val (.ref a52), .val .null, .val (.ref a99), .val (.int (0 : Int32)), .val (.int (0 : Int32))] []))
    refine own_Goes.step (fun tq kq => XT.iincV X157.here hx rfl (1 : Int32) (hb hby d15_208) (by decide) rfl (l' := #[.val (.ref x0), .val (.int (0 : Int32)), .val (.ref a52), .val .null, .val (.ref a99), .val (.int (1 : Int32)), .val (.int (0 : Int32))]) rfl kq) ?_
    show own_Goes _ _ _ _ _ _ _ (T157.setTop (mkF m 211 #[.val (.ref x0), .val (.int (0 : Int32)), .val (.ref a52), .val .null, .val (.ref a99), .val (.int (1 : Int32)), .val (.int (0 : Int32))] []))
    refine own_Goes.step (fun tq kq => XT.iincV X157.here hx rfl (1 : Int32) (hb hby d15_211) (by decide) rfl (l' := #[.val (.ref x0), .val (.int (0 : Int32)), .val (.ref a52), .val .null, .val (.ref a99), .val (.int (1 : Int32)), .val (.int (1 : Int32))]) rfl kq) ?_
    show own_Goes _ _ _ _ _ _ _ (T157.setTop (mkF m 214 #[.val (.ref x0), .val (.int (0 : Int32)), .val (.ref a52), .val .null, .val (.ref a99), .val (.int (1 : Int32)), .val (.int (1 : Int32))] []))
    refine own_Goes.step (fun tq kq => XS.goto X157.here hx rfl (pc0 := 214) (pc' := 121) rfl (hb hby d15_214) (by decide) (by decide) kq) ?_
    show own_Goes _ _ _ _ _ _ _ (T157.setTop (mkF m 121 #[.val (.ref x0), .val (.int (0 : Int32)), .val (.ref a52), .val .null, .val (.ref a99), .val (.int (1 : Int32)), .val (.int (1 : Int32))] []))
    refine own_Goes.step (fun tq kq => XS.iload X157.here hx rfl (hb hby d15_121) rfl kq) ?_
    show own_Goes _ _ _ _ _ _ _ (T157.setTop (mkF m 123 #[.val (.ref x0), .val (.int (0 : Int32)), .val (.ref a52), .val .null, .val (.ref a99), .val (.int (1 : Int32)), .val (.int (1 : Int32))] [(.int (1 : Int32))]))
    refine own_Goes.step (fun tq kq => XS.aloadN X157.here hx rfl (hb hby d15_123) rfl rfl kq) ?_
    show own_Goes _ _ _ _ _ _ _ (T157.setTop (mkF m 124 #[.val (.ref x0), .val (.int (0 : Int32)), .val (.ref a52), .val .null, .val (.ref a99), .val (.int (1 : Int32)), .val (.int (1 : Int32))] [(.ref x0), (.int (1 : Int32))]))
    obtain ⟨T180, X180, e180, st180⟩ := getF X157 hx hZ hown (host := "") (Or.inl (own_at hw 43 rfl)) Via.refl e157 f163 (g := (mkF m 124 #[.val (.ref x0), .val (.int (0 : Int32)), .val (.ref a52), .val .null, .val (.ref a99), .val (.int (1 : Int32)), .val (.int (1 : Int32))] [(.ref x0), (.int (1 : Int32))])) rfl rfl (hb hby d15_124)
    refine own_Goes.step st180 ?_
    show own_Goes _ _ _ _ _ _ _ (T180.setTop (mkF m 127 #[.val (.ref x0), .val (.int (0 : Int32)), .val (.ref a52), .val .null, .val (.ref a99), .val (.int (1 : Int32)), .val (.int (1 : Int32))] [(.int (1 : Int32)), (.int (1 : Int32))]))
    refine own_Goes.step (fun tq kq => XS.icmpYes X180.here hx rfl (pc0 := 127) (pc' := 217) rfl (hb hby d15_127) rfl (XT.ii_ge_t (by decide)) (by decide) (by decide) kq) ?_
    show own_Goes _ _ _ _ _ _ _ (T180.setTop (mkF m 217 #[.val (.ref x0), .val (.int (0 : Int32)), .val (.ref a52), .val .null, .val (.ref a99), .val (.int (1 : Int32)), .val (.int (1 : Int32))] []))
    refine own_Goes.step (fun tq kq => XS.aloadN X180.here hx rfl (hb hby d15_217) rfl rfl kq) ?_
    show own_Goes _ _ _ _ _ _ _ (T180.setTop (mkF m 218 #[.val (.ref x0), .val (.int (0 : Int32)), .val (.ref a52), .val .null, .val (.ref a99), .val (.int (1 : Int32)), .val (.int (1 : Int32))] [(.ref a52)]))
    refine own_Goes.step (fun tq kq => XS.aloadN X180.here hx rfl (hb hby d15_218) rfl rfl kq) ?_
    show own_Goes _ _ _ _ _ _ _ (T180.setTop (mkF m 219 #[.val (.ref x0), .val (.int (0 : Int32)), .val (.ref a52), .val .null, .val (.ref a99), .val (.int (1 : Int32)), .val (.int (1 : Int32))] [.null, (.ref a52)]))
    refine own_Goes.step (fun tq kq => XS.aloadN X180.here hx rfl (hb hby d15_219) rfl rfl kq) ?_
    show own_Goes _ _ _ _ _ _ _ (T180.setTop (mkF m 220 #[.val (.ref x0), .val (.int (0 : Int32)), .val (.ref a52), .val .null, .val (.ref a99), .val (.int (1 : Int32)), .val (.int (1 : Int32))] [(.ref x0), .null, (.ref a52)]))
    obtain ⟨T181, X181, e181, st181⟩ := getF X180 hx hZ hown (host := "") (Or.inl (own_at hw 50 rfl)) Via.refl e180 f164 (g := (mkF m 220 #[.val (.ref x0), .val (.int (0 : Int32)), .val (.ref a52), .val .null, .val (.ref a99), .val (.int (1 : Int32)), .val (.int (1 : Int32))] [(.ref x0), .null, (.ref a52)])) rfl rfl (hb hby d15_220)
    refine own_Goes.step st181 ?_
    show own_Goes _ _ _ _ _ _ _ (T181.setTop (mkF m 223 #[.val (.ref x0), .val (.int (0 : Int32)), .val (.ref a52), .val .null, .val (.ref a99), .val (.int (1 : Int32)), .val (.int (1 : Int32))] [(.long fs), .null, (.ref a52)]))
    refine own_Goes.step (fun tq kq => XS.aload X181.here hx rfl (hb hby d15_223) rfl rfl kq) ?_
    show own_Goes _ _ _ _ _ _ _ (T181.setTop (mkF m 225 #[.val (.ref x0), .val (.int (0 : Int32)), .val (.ref a52), .val .null, .val (.ref a99), .val (.int (1 : Int32)), .val (.int (1 : Int32))] [(.ref a99), (.long fs), .null, (.ref a52)]))
    refine own_Goes.step (fun tq kq => XS.iload X181.here hx rfl (hb hby d15_225) rfl kq) ?_
    show own_Goes _ _ _ _ _ _ _ (T181.setTop (mkF m 227 #[.val (.ref x0), .val (.int (0 : Int32)), .val (.ref a52), .val .null, .val (.ref a99), .val (.int (1 : Int32)), .val (.int (1 : Int32))] [(.int (1 : Int32)), (.ref a99), (.long fs), .null, (.ref a52)]))
    obtain ⟨w182, T182, L182, q182, Y182, st182⟩ := own_stat X181 hx hZ e181 hown (own_at hw 122 rfl) (own_at hw 123 rfl) (own_at hw 124 rfl) (own_at hw 125 rfl) (by decide) (own_m20o l Z a0 hw [] a52 fs a99 (fun j => if j = 0 then ((fun j => if j = 0 then K 0 else (fun _ => (0 : Int64)) j) 0) else (fun j => if j = 0 then K 0 else (fun _ => (0 : Int64)) j) j) (fun j => if j = 0 then (nar .boolean (D 0)) else (fun _ => (0 : Int32)) j) n0 h157 Z179 f174 f176) (by decide) (W := 0) (by decide) (by decide) (by decide) (g := (mkF m 227 #[.val (.ref x0), .val (.int (0 : Int32)), .val (.ref a52), .val .null, .val (.ref a99), .val (.int (1 : Int32)), .val (.int (1 : Int32))] [(.int (1 : Int32)), (.ref a99), (.long fs), .null, (.ref a52)])) rfl (by rw [hml]; rfl) (argsL := [(.ref a52), .null, (.long fs), (.ref a99), (.int (1 : Int32))]) (rest := []) (lenOf pd_20 rfl) rfl (by show 2 * 0 + _ ≤ _; exact Nat.le_of_eq rfl) (hb hby d15_227)
    obtain ⟨r182, rfl, N182, Er, Fk, Fs, Rk⟩ := q182
    have Nn182 := Fr.app N178 N182
    refine own_Goes.step st182 ?_
    show own_Goes _ _ _ _ _ _ _ (T182.setTop (mkF m 230 #[.val (.ref x0), .val (.int (0 : Int32)), .val (.ref a52), .val .null, .val (.ref a99), .val (.int (1 : Int32)), .val (.int (1 : Int32))] [(.ref r182)]))
    refine own_endA Y182 hx Bd.notSynchronized rfl Bd.returns rfl (hb hby d15_230) ?_ (by decide) (by decide)
    show own_F15o Z x0 kA sA dA pA sv K Sz D fs ix la n0 h0 _ T182.heap _
    exact ⟨r182, a52, _, rfl, Nn182, Er, Fk, Fs, Rk⟩
  obtain ⟨t2, o2, q1, q2, q3, q4⟩ := hgo
  exact ⟨t2, o2, castTop (ef_15 m x0) q1, q2, q3, q4⟩
theorem d28_0 : decode prog_49_method_5_code 0 = .ok (.aload_n 0, 1) := by decide +kernel
theorem d28_1 : decode prog_49_method_5_code 1 = .ok (.getfield 13, 3) := by decide +kernel
theorem d28_4 : decode prog_49_method_5_code 4 = .ok (.arraylength, 1) := by decide +kernel
theorem d28_5 : decode prog_49_method_5_code 5 = .ok (.ireturn, 1) := by decide +kernel
theorem pn_28 : plainName "com/example/strati/strati/sim/RunEntries" = true := by first | (simp [plainName, overriddenIn]; done) | decide +kernel
theorem pd_28 : parseMethodDescriptor "()I" = some ⟨[], (some .int)⟩ := by decide +kernel
theorem ef_28 (m : MethodId) (x0 : Addr) : entryFrame m #[(.ref x0)] 1 = mkF m 0 #[.val (.ref x0)] [] := by first | (simp [entryFrame, mkF, argsToLocals, Value.category]; done) | rfl
def own_F28 (Z : State) (x0 : Addr) (rk : Addr) (KB : Nat → Int64) (n0 : Nat) (h0 : Heap) (v : Option Value) (h : Heap) (L : List Loc) : Prop := v = some (.int (1 : Int32)) ∧ L = [] ∧ h = h0
set_option maxRecDepth 65536 in
set_option maxHeartbeats 40000000 in
theorem own_m28 (l : Launch) (Z : State) (a0 : Array Value) (hw : ∀ d ∈ tables_1, d.before a0 Z = true) (ws : List Jvm.Cond) (x0 : Addr) (rk : Addr) (KB : Nat → Int64) (n0 : Nat) (h0 : Heap)  (PK : Fld Z h0 x0 "com/example/strati/strati/sim/RunEntries" "keys" "[J" (.ref rk)) (RK : own_Ar Z h0 rk .long 1 (fun uu => .long (KB uu))) :
    MetFree l (⟨"com/example/strati/strati/sim/RunEntries", "count", "()I"⟩ : MethodName) (head1 (Jvm.Cond.code (⟨"com/example/strati/strati/sim/RunEntries", "count", "()I"⟩ : MethodName) prog_49_method_5_code 1 (some .int) :: ws) ({ frames := 0, cells := 0, slots := 0, locals := 0 } : Room)) (fun a U => a = #[(.ref x0)] ∧ Z.Warmed39 U.vm ∧ U.heap = h0) (fun _ _ _ _ _ => True) (fun _ U o U' => ∃ v L, o = .returned v ∧ own_F28 Z x0 rk KB n0 h0 v U'.heap L ∧ FrameEnd U o U' L ({ frames := 0, cells := 0, slots := 0, locals := 0 } : Room).cells ({ frames := 0, cells := 0, slots := 0, locals := 0 } : Room).slots) := by
  refine MetFree.of_bodySF (plainFor_of_name pn_28) hisR ?_
  intro p e s m args below meth c s₁ Bd hml0 hP hK
  obtain ⟨rfl, hZ, hh⟩ := hP
  have hx := Bd.exec
  have hby := Bd.bytes
  have hml : c.maxLocals = 1 := hml0
  have hown : s.vm.findClass "com/example/strati/strati/sim/RunEntries" = some m.cls := findClass_of_methodNamed Bd.named
  have hnm := (name_of_methodNamed Bd.named Bd.method).1
  have X0 : Stand p l e ({ frames := 0, cells := 0, slots := 0, locals := 0 } : Room) s m #[(.ref x0)] below meth c s₁ [] 0 0 := Stand.of_body Bd
  have e0 : s₁.heap = h0 := by rw [← hh, Bd.state]; rfl
  have N0 := Fr.nil n0
  have K0 : Keep h0 h0 [] := Keep.refl h0 []
  have hgo : own_Goes p e below s (own_F28 Z x0 rk KB n0 h0) 0 0 (s₁.setTop (mkF m 0 #[.val (.ref x0)] [])) := by
    refine own_Goes.step (fun tq kq => XS.aloadN X0.here hx rfl (hb hby d28_0) rfl rfl kq) ?_
    show own_Goes _ _ _ _ _ _ _ (s₁.setTop (mkF m 1 #[.val (.ref x0)] [(.ref x0)]))
    obtain ⟨T1, X1, e1, st1⟩ := getF X0 hx hZ hown (host := "") (Or.inl (own_at hw 132 rfl)) Via.refl e0 PK (g := (mkF m 1 #[.val (.ref x0)] [(.ref x0)])) rfl rfl (hb hby d28_1)
    refine own_Goes.step st1 ?_
    show own_Goes _ _ _ _ _ _ _ (T1.setTop (mkF m 4 #[.val (.ref x0)] [(.ref rk)]))
    refine own_Goes.step (own_alen X1 hx hZ e1 RK (z := (1 : Int32)) (by decide) (g := (mkF m 4 #[.val (.ref x0)] [(.ref rk)])) rfl rfl (hb hby d28_4)) ?_
    show own_Goes _ _ _ _ _ _ _ (T1.setTop (mkF m 5 #[.val (.ref x0)] [(.int (1 : Int32))]))
    refine own_endI X1 hx Bd.notSynchronized Bd.returns (hb hby d28_5) ?_ (by decide) (by decide)
    show own_F28 Z x0 rk KB n0 h0 _ T1.heap _
    rw [e1]
    exact ⟨rfl, rfl, rfl⟩
  obtain ⟨t2, o2, q1, q2, q3, q4⟩ := hgo
  exact ⟨t2, o2, castTop (ef_28 m x0) q1, q2, q3, q4⟩
theorem d29_0 : decode prog_49_method_6_code 0 = .ok (.aload_n 0, 1) := by decide +kernel
theorem d29_1 : decode prog_49_method_6_code 1 = .ok (.getfield 33, 3) := by decide +kernel
theorem d29_4 : decode prog_49_method_6_code 4 = .ok (.lreturn, 1) := by decide +kernel
theorem pn_29 : plainName "com/example/strati/strati/sim/RunEntries" = true := by first | (simp [plainName, overriddenIn]; done) | decide +kernel
theorem pd_29 : parseMethodDescriptor "()J" = some ⟨[], (some .long)⟩ := by decide +kernel
theorem ef_29 (m : MethodId) (x0 : Addr) : entryFrame m #[(.ref x0)] 1 = mkF m 0 #[.val (.ref x0)] [] := by first | (simp [entryFrame, mkF, argsToLocals, Value.category]; done) | rfl
def own_f29 (sz : Int64) : Int64 := sz
def own_F29 (Z : State) (x0 : Addr) (sz : Int64) (h0 : Heap) (v : Option Value) (h : Heap) (L : List Loc) : Prop := v = some (.long (own_f29 sz)) ∧ L = [] ∧ h = h0
set_option maxRecDepth 65536 in
set_option maxHeartbeats 40000000 in
theorem own_m29 (l : Launch) (Z : State) (a0 : Array Value) (hw : ∀ d ∈ tables_1, d.before a0 Z = true) (ws : List Jvm.Cond) (x0 : Addr) (sz : Int64) (h0 : Heap) (P0 : Fld Z h0 x0 "com/example/strati/strati/sim/RunEntries" "size" "J" (.long sz))  :
    MetFree l (⟨"com/example/strati/strati/sim/RunEntries", "size", "()J"⟩ : MethodName) (head1 (Jvm.Cond.code (⟨"com/example/strati/strati/sim/RunEntries", "size", "()J"⟩ : MethodName) prog_49_method_6_code 1 (some .long) :: ws) ({ frames := 0, cells := 0, slots := 0, locals := 0 } : Room)) (fun a U => a = #[(.ref x0)] ∧ Z.Warmed39 U.vm ∧ U.heap = h0) (fun _ _ _ _ _ => True) (fun _ U o U' => ∃ v L, o = .returned v ∧ own_F29 Z x0 sz h0 v U'.heap L ∧ FrameEnd U o U' L ({ frames := 0, cells := 0, slots := 0, locals := 0 } : Room).cells ({ frames := 0, cells := 0, slots := 0, locals := 0 } : Room).slots) := by
  refine MetFree.of_bodySF (plainFor_of_name pn_29) hisR ?_
  intro p e s m args below meth c s₁ Bd hml0 hP hK
  obtain ⟨rfl, hZ, hh⟩ := hP
  have hx := Bd.exec
  have hby := Bd.bytes
  have hml : c.maxLocals = 1 := hml0
  have hown : s.vm.findClass "com/example/strati/strati/sim/RunEntries" = some m.cls := findClass_of_methodNamed Bd.named
  have hnm := (name_of_methodNamed Bd.named Bd.method).1
  have X0 : Stand p l e ({ frames := 0, cells := 0, slots := 0, locals := 0 } : Room) s m #[(.ref x0)] below meth c s₁ [] 0 0 := Stand.of_body Bd
  have e0 : s₁.heap = h0 := by rw [← hh, Bd.state]; rfl
  have hgo : own_Goes p e below s (own_F29 Z x0 sz h0) 0 0 (s₁.setTop (mkF m 0 #[.val (.ref x0)] [])) := by
    refine own_Goes.step (fun tq kq => XS.aloadN X0.here hx rfl (hb hby d29_0) rfl rfl kq) ?_
    show own_Goes _ _ _ _ _ _ _ (s₁.setTop (mkF m 1 #[.val (.ref x0)] [(.ref x0)]))
    obtain ⟨T1, X1, e1, st1⟩ := getF X0 hx hZ hown (host := "") (Or.inl (own_at hw 140 rfl)) Via.refl e0 P0 (g := (mkF m 1 #[.val (.ref x0)] [(.ref x0)])) rfl rfl (hb hby d29_1)
    refine own_Goes.step st1 ?_
    show own_Goes _ _ _ _ _ _ _ (T1.setTop (mkF m 4 #[.val (.ref x0)] [(.long sz)]))
    exact own_endJ X1 hx Bd.notSynchronized Bd.returns (hb hby d29_4) ⟨(congrArg (fun z => some (Value.long z)) (show sz = own_f29 sz from by simp only [own_f29])), rfl, e1⟩ (by decide) (by decide)
  obtain ⟨t2, o2, q1, q2, q3, q4⟩ := hgo
  exact ⟨t2, o2, castTop (ef_29 m x0) q1, q2, q3, q4⟩
theorem own_nin4 {e a b c d : Addr} (h1 : e ≠ a) (h2 : e ≠ b) (h3 : e ≠ c) (h4 : e ≠ d) : e ∉ [a, b, c, d] := fun q => by
  simp only [List.mem_cons, List.not_mem_nil, or_false] at q
  rcases q with q | q | q | q
  · exact h1 q
  · exact h2 q
  · exact h3 q
  · exact h4 q
theorem own_W.ext {Z : State} {h : Heap} {n0 : Nat} {w kA sA dA pA : Addr} {sv : Value} {K Sz : Nat → Int64} {D : Nat → Int32} {cnt : Nat} {fs : Int64} {mx am ix la : Int32} (B : own_W Z h n0 w kA sA dA pA sv K Sz D cnt fs mx am ix la) {h' : Heap} (E : Ext h h') : own_W Z h' n0 w kA sA dA pA sv K Sz D cnt fs mx am ix la := by
  obtain ⟨E0, P0, P1, P2, P3, P4, P5, P6, P7, P8, P9, P10, R0, R1, R2, R3, n1, n2, n3, n4, n5, n6, n7, n8, n9, n10, gw0, gw1, gw2, gw3, hmx, ham⟩ := B
  exact ⟨Jvm.RoadKit.Exa.ext E E0, Jvm.RoadKit.Fld.ext E P0, Jvm.RoadKit.Fld.ext E P1, Jvm.RoadKit.Fld.ext E P2, Jvm.RoadKit.Fld.ext E P3, Jvm.RoadKit.Fld.ext E P4, Jvm.RoadKit.Fld.ext E P5, Jvm.RoadKit.Fld.ext E P6, Jvm.RoadKit.Fld.ext E P7, Jvm.RoadKit.Fld.ext E P8, Jvm.RoadKit.Fld.ext E P9, Jvm.RoadKit.Fld.ext E P10, R0.ext E, R1.ext E, R2.ext E, R3.ext E, n1, n2, n3, n4, n5, n6, n7, n8, n9, n10, gw0, gw1, gw2, gw3, hmx, ham⟩
theorem own_W.keep {Z : State} {h : Heap} {n0 : Nat} {w kA sA dA pA : Addr} {sv : Value} {K Sz : Nat → Int64} {D : Nat → Int32} {cnt : Nat} {fs : Int64} {mx am ix la : Int32} (B : own_W Z h n0 w kA sA dA pA sv K Sz D cnt fs mx am ix la) {h' : Heap} {ws : List Addr} (KK : Keep h h' ws) (q0 : w ∉ ws) (q1 : kA ∉ ws) (q2 : sA ∉ ws) (q3 : dA ∉ ws) (q4 : pA ∉ ws) : own_W Z h' n0 w kA sA dA pA sv K Sz D cnt fs mx am ix la := by
  obtain ⟨E0, P0, P1, P2, P3, P4, P5, P6, P7, P8, P9, P10, R0, R1, R2, R3, n1, n2, n3, n4, n5, n6, n7, n8, n9, n10, gw0, gw1, gw2, gw3, hmx, ham⟩ := B
  exact ⟨E0.keep KK, P0.keep KK q0, P1.keep KK q0, P2.keep KK q0, P3.keep KK q0, P4.keep KK q0, P5.keep KK q0, P6.keep KK q0, P7.keep KK q0, P8.keep KK q0, P9.keep KK q0, P10.keep KK q0, R0.keep KK q1, R1.keep KK q2, R2.keep KK q3, R3.keep KK q4, n1, n2, n3, n4, n5, n6, n7, n8, n9, n10, gw0, gw1, gw2, gw3, hmx, ham⟩
theorem own_W.lts {Z : State} {h : Heap} {n0 : Nat} {w kA sA dA pA : Addr} {sv : Value} {K Sz : Nat → Int64} {D : Nat → Int32} {cnt : Nat} {fs : Int64} {mx am ix la : Int32} (B : own_W Z h n0 w kA sA dA pA sv K Sz D cnt fs mx am ix la) : n0 ≤ h.size ∧ w < h.size ∧ kA < h.size ∧ sA < h.size ∧ dA < h.size ∧ pA < h.size := by
  obtain ⟨E0, P0, P1, P2, P3, P4, P5, P6, P7, P8, P9, P10, R0, R1, R2, R3, n1, n2, n3, n4, n5, n6, n7, n8, n9, n10, gw0, gw1, gw2, gw3, hmx, ham⟩ := B
  exact ⟨Nat.le_trans gw0 (Nat.le_of_lt E0.lt), E0.lt, R0.lt, R1.lt, R2.lt, R3.lt⟩
theorem own_W.am {Z : State} {h : Heap} {n0 : Nat} {w kA sA dA pA : Addr} {sv : Value} {K Sz : Nat → Int64} {D : Nat → Int32} {cnt : Nat} {fs : Int64} {mx am ix la : Int32} {am1 : Int32} (B : own_W Z h n0 w kA sA dA pA sv K Sz D cnt fs mx am ix la) (q : am = am1) : own_W Z h n0 w kA sA dA pA sv K Sz D cnt fs mx am1 ix la := q ▸ B
theorem own_I.ext {Z : State} {h h' : Heap} {n0 : Nat} {w kA sA dA pA iA : Addr} {S : Nat → Int32} (I : own_I Z h n0 w kA sA dA pA iA S) (E : Ext h h') : own_I Z h' n0 w kA sA dA pA iA S := ⟨I.1.ext E, I.2⟩
theorem own_I.keep {Z : State} {h h' : Heap} {n0 : Nat} {w kA sA dA pA iA : Addr} {S : Nat → Int32} {ws : List Addr} (I : own_I Z h n0 w kA sA dA pA iA S) (KK : Keep h h' ws) (q : iA ∉ ws) : own_I Z h' n0 w kA sA dA pA iA S := ⟨I.1.keep KK q, I.2⟩
theorem own_more {p : Program} {l : Launch} {e : Env} {R : Room} {s : State} {m : MethodId} {args : Array Value} {below : List Frame} {meth : Method} {c : Code} {T : State} {locs : List Loc} {c1 s1 c2 s2 : Nat} (X : Stand p l e R s m args below meth c T locs c1 s1) (hc : c1 ≤ c2) (hn : s1 ≤ s2) : Stand p l e R s m args below meth c T locs c2 s2 :=
  { X with same := ⟨X.same.1, X.same.2.1, Nat.le_trans X.same.2.2.1 (Nat.add_le_add_left hc _), X.same.2.2.2.1, Nat.le_trans X.same.2.2.2.2.1 hn, X.same.2.2.2.2.2⟩ }
theorem own_S0 {K : Nat → Int64} {la : Int32} {S : Nat → Int32} {ixn : Nat} {lb : Int32} (hbl : own_bld K la 0 = some (S, ixn, lb)) (t : Nat) : S t = 0 := by
  have z : some ((fun _ => (0 : Int32)), 0, la) = some (S, ixn, lb) := hbl
  cases z
  rfl
theorem own_szl (q : Int64) : own_f29 (q * ((1 : Int32).toInt64)) = q := by
  unfold own_f29
  exact Int64.mul_one q
theorem own_hit {K : Nat → Int64} {n : Nat} {key : Int64} (h : K n = key) : own_bi (own_mem K (n + 1) key) = (1 : Int32) := by
  rw [← h, own_mem_of K (n + 1) n (Nat.lt_succ_self n)]
  rfl
theorem pn_0 : plainName "com/example/strati/strati/sim/WriteBufferClearPinLaw" = true := by first | (simp [plainName, overriddenIn]; done) | decide +kernel
theorem pd_0 : parseMethodDescriptor "(JJJJJI)Z" = some ⟨[.long, .long, .long, .long, .long, .int], (some .boolean)⟩ := by decide +kernel
theorem ef_0 (m : MethodId) (x0 : Int64) (x1 : Int64) (x2 : Int64) (x3 : Int64) (x4 : Int64) (x5 : Int32) : entryFrame m #[(.long x0), (.long x1), (.long x2), (.long x3), (.long x4), (.int x5)] maxLocals = mkF m 0 #[.val (.long x0), .second, .val (.long x1), .second, .val (.long x2), .second, .val (.long x3), .second, .val (.long x4), .second, .val (.int x5), .unset, .unset, .unset, .unset, .unset] [] := by first | (simp [entryFrame, mkF, argsToLocals, Value.category, maxLocals]; done) | rfl
def own_f0_1 (x0 : Int64) (x1 : Int64) (x2 : Int64) (x3 : Int64) (x4 : Int64) (x5 : Int32) : Int32 := (if (x5 &&& (1 : Int32)) = (0 : Int32) then (0 : Int32) else (1 : Int32))
def own_f0_2 (x0 : Int64) (x1 : Int64) (x2 : Int64) (x3 : Int64) (x4 : Int64) (x5 : Int32) : Int64 := (if (x5 &&& (8 : Int32)) = (0 : Int32) then x2 else x0)
def own_f0_3 (x0 : Int64) (x1 : Int64) (x2 : Int64) (x3 : Int64) (x4 : Int64) (x5 : Int32) : Int32 := (if (x5 &&& (16 : Int32)) = (0 : Int32) then (0 : Int32) else (1 : Int32))
def own_f0_4 (x0 : Int64) (x1 : Int64) (x2 : Int64) (x3 : Int64) (x4 : Int64) (x5 : Int32) : Int32 := (if x1 = (own_f0_2 x0 x1 x2 x3 x4 x5) then (1 : Int32) else (0 : Int32))
theorem own_flA (x0 x1 x2 x3 x4 : Int64) (x5 : Int32) : own_f0_1 x0 x1 x2 x3 x4 x5 = 0 ∨ own_f0_1 x0 x1 x2 x3 x4 x5 = 1 := by
  unfold own_f0_1
  split
  · exact Or.inl rfl
  · exact Or.inr rfl
theorem own_flB (x0 x1 x2 x3 x4 : Int64) (x5 : Int32) : own_f0_3 x0 x1 x2 x3 x4 x5 = 0 ∨ own_f0_3 x0 x1 x2 x3 x4 x5 = 1 := by
  unfold own_f0_3
  split
  · exact Or.inl rfl
  · exact Or.inr rfl
theorem own_k2 (K : Nat → Int64) (x0 x1 x2 x3 x4 : Int64) (x5 : Int32) : own_bi (own_mem (own_setJ K 0 (own_f0_2 x0 x1 x2 x3 x4 x5)) 1 x1) = own_f0_4 x0 x1 x2 x3 x4 x5 := by
  have e : own_mem (own_setJ K 0 (own_f0_2 x0 x1 x2 x3 x4 x5)) 1 x1 = decide (own_f0_2 x0 x1 x2 x3 x4 x5 = x1) := by
    show (false || decide (own_setJ K 0 (own_f0_2 x0 x1 x2 x3 x4 x5) 0 = x1)) = _
    rw [Bool.false_or]
    rfl
  rw [e]
  unfold own_f0_4
  by_cases q : x1 = own_f0_2 x0 x1 x2 x3 x4 x5
  · rw [if_pos q, decide_eq_true q.symm]
    rfl
  · rw [if_neg q, decide_eq_false (fun r => q r.symm)]
    rfl
def own_F0 (Z : State) (x0 : Int64) (x1 : Int64) (x2 : Int64) (x3 : Int64) (x4 : Int64) (x5 : Int32)  (n0 : Nat) (h0 : Heap) (v : Option Value) (h : Heap) (L : List Loc) : Prop := v = some (.int 1) ∧ Fr n0 L
set_option maxRecDepth 65536 in
set_option maxHeartbeats 40000000 in
theorem own_m0 (l : Launch) (Z : State) (a0 : Array Value) (hw : ∀ d ∈ tables_1, d.before a0 Z = true) (ws : List Jvm.Cond) (x0 : Int64) (x1 : Int64) (x2 : Int64) (x3 : Int64) (x4 : Int64) (x5 : Int32)  (n0 : Nat) (h0 : Heap) (Z0 : n0 ≤ h0.size)   :
    MetFree l x (head1 (Jvm.Cond.code x code maxLocals ret :: ws) room_1) (fun a U => a = #[(.long x0), (.long x1), (.long x2), (.long x3), (.long x4), (.int x5)] ∧ Z.Warmed39 U.vm ∧ U.heap = h0) (fun _ _ _ _ _ => True) (fun _ U o U' => ∃ v L, o = .returned v ∧ own_F0 Z x0 x1 x2 x3 x4 x5 n0 h0 v U'.heap L ∧ FrameEnd U o U' L room_1.cells room_1.slots) := by
  refine MetFree.of_bodySF (plainFor_of_name pn_0) hisR ?_
  intro p e s m args below meth c s₁ Bd hml0 hP hK
  obtain ⟨rfl, hZ, hh⟩ := hP
  have hx := Bd.exec
  have hby := Bd.bytes
  have hml : c.maxLocals = 16 := hml0
  have hown : s.vm.findClass "com/example/strati/strati/sim/WriteBufferClearPinLaw" = some m.cls := findClass_of_methodNamed Bd.named
  have hnm := (name_of_methodNamed Bd.named Bd.method).1
  have X0 : Stand p l e room_1 s m #[(.long x0), (.long x1), (.long x2), (.long x3), (.long x4), (.int x5)] below meth c s₁ [] 0 0 := Stand.of_body Bd
  have e0 : s₁.heap = h0 := by rw [← hh, Bd.state]; rfl
  have N0 := Fr.nil n0
  have K0 : Keep h0 h0 [] := Keep.refl h0 []
  have hgo : own_Goes p e below s (own_F0 Z x0 x1 x2 x3 x4 x5 n0 h0) room_1.cells room_1.slots (s₁.setTop (mkF m 0 #[.val (.long x0), .second, .val (.long x1), .second, .val (.long x2), .second, .val (.long x3), .second, .val (.long x4), .second, .val (.int x5), .unset, .unset, .unset, .unset, .unset] [])) := by
    obtain ⟨T1, h1, X1, e1, E1, A1, D1, -, st1⟩ := newO X0 hx hZ hown (own_at hw 0 rfl) (own_at hw 1 rfl) (own_at hw 2 rfl) e0 (g := (mkF m 0 #[.val (.long x0), .second, .val (.long x1), .second, .val (.long x2), .second, .val (.long x3), .second, .val (.long x4), .second, .val (.int x5), .unset, .unset, .unset, .unset, .unset] [])) rfl (hb hby at_0) (by decide) (by decide)
    obtain ⟨a1, g1⟩ : ∃ z, z = h0.size := ⟨_, rfl⟩
    rw [← g1] at A1 D1 st1
    have f2 : Fld Z h1 a1 "com/example/strati/strati/sim/WriteBuffer" "keys" "[J" .null := D1 (Or.inl (own_at hw 11 rfl)) (ty := (.array .long)) (by decide)
    have f3 : Fld Z h1 a1 "com/example/strati/strati/sim/WriteBuffer" "sizes" "[J" .null := D1 (Or.inl (own_at hw 13 rfl)) (ty := (.array .long)) (by decide)
    have f4 : Fld Z h1 a1 "com/example/strati/strati/sim/WriteBuffer" "deletes" "[Z" .null := D1 (Or.inl (own_at hw 16 rfl)) (ty := (.array .boolean)) (by decide)
    have f5 : Fld Z h1 a1 "com/example/strati/strati/sim/WriteBuffer" "positions" "[I" .null := D1 (Or.inl (own_at hw 19 rfl)) (ty := (.array .int)) (by decide)
    have f6 : Fld Z h1 a1 "com/example/strati/strati/sim/WriteBuffer" "lastAdded" "I" (.int (0 : Int32)) := D1 (Or.inl (own_at hw 21 rfl)) (ty := .int) (by decide)
    have f7 : Fld Z h1 a1 "com/example/strati/strati/sim/WriteBuffer" "count" "I" (.int (0 : Int32)) := D1 (Or.inl (own_at hw 44 rfl)) (ty := .int) (by decide)
    have f8 : Fld Z h1 a1 "com/example/strati/strati/sim/WriteBuffer" "firstSize" "J" (.long (0 : Int64)) := D1 (Or.inl (own_at hw 51 rfl)) (ty := .long) (by decide)
    have f9 : Fld Z h1 a1 "com/example/strati/strati/sim/WriteBuffer" "mixedSizes" "Z" (.int (0 : Int32)) := D1 (Or.inl (own_at hw 53 rfl)) (ty := .boolean) (by decide)
    have f10 : Fld Z h1 a1 "com/example/strati/strati/sim/WriteBuffer" "anyMarker" "Z" (.int (0 : Int32)) := D1 (Or.inl (own_at hw 55 rfl)) (ty := .boolean) (by decide)
    have f11 : Fld Z h1 a1 "com/example/strati/strati/sim/WriteBuffer" "slots" "[I" .null := D1 (Or.inl (own_at hw 62 rfl)) (ty := (.array .int)) (by decide)
    have f12 : Fld Z h1 a1 "com/example/strati/strati/sim/WriteBuffer" "indexed" "I" (.int (0 : Int32)) := D1 (Or.inl (own_at hw 69 rfl)) (ty := .int) (by decide)
    have ga1 : n0 ≤ a1 := Nat.le_trans Z0 (Nat.le_of_eq g1.symm)
    have Z1 : n0 ≤ h1.size := Nat.le_trans Z0 E1.1
    have K1 := K0.ext E1
    have Kh1 : h0.size ≤ a1 := Nat.le_trans K0.1 (Nat.le_of_eq g1.symm)
    refine own_Goes.step st1 ?_
    show own_Goes _ _ _ _ _ _ _ (T1.setTop (mkF m 3 #[.val (.long x0), .second, .val (.long x1), .second, .val (.long x2), .second, .val (.long x3), .second, .val (.long x4), .second, .val (.int x5), .unset, .unset, .unset, .unset, .unset] [(.ref a1)]))
    refine own_Goes.step (fun tq kq => XS.dup X1.here hx rfl (hb hby at_3) rfl rfl kq) ?_
    show own_Goes _ _ _ _ _ _ _ (T1.setTop (mkF m 4 #[.val (.long x0), .second, .val (.long x1), .second, .val (.long x2), .second, .val (.long x3), .second, .val (.long x4), .second, .val (.int x5), .unset, .unset, .unset, .unset, .unset] [(.ref a1), (.ref a1)]))
    obtain ⟨w14, T14, L14, q14, Y14, st14⟩ := own_spec X1 hx hZ e1 rfl hown (own_at hw 3 rfl) (own_at hw 4 rfl) (own_at hw 2 rfl) (own_at hw 5 rfl) (by decide) (own_m1 l Z a0 hw [] a1 n0 h1 A1 ga1 f2 f3 f4 f5 f7 f8 f9 f10 f11 f12 f6) (by decide) (W := 1) (by decide) (by decide) (by decide) (g := (mkF m 4 #[.val (.long x0), .second, .val (.long x1), .second, .val (.long x2), .second, .val (.long x3), .second, .val (.long x4), .second, .val (.int x5), .unset, .unset, .unset, .unset, .unset] [(.ref a1), (.ref a1)])) rfl (by rw [hml]; rfl) (a := a1) (argsL := []) (rest := [(.ref a1)]) (lenOf pd_1 rfl) rfl (by show 2 * 0 + _ ≤ _; exact Nat.le_of_eq rfl) (hb hby at_4)
    obtain ⟨rfl, N14, K14, kA, sA, dA, pA, -, -, -, -, B14⟩ := q14
    have Nn14 := Fr.app N0 N14
    refine own_Goes.step st14 ?_
    show own_Goes _ _ _ _ _ _ _ (T14.setTop (mkF m 7 #[.val (.long x0), .second, .val (.long x1), .second, .val (.long x2), .second, .val (.long x3), .second, .val (.long x4), .second, .val (.int x5), .unset, .unset, .unset, .unset, .unset] [(.ref a1)]))
    refine own_Goes.step (fun tq kq => XS.astore Y14.here hx rfl (hb hby at_7) rfl rfl (l' := #[.val (.long x0), .second, .val (.long x1), .second, .val (.long x2), .second, .val (.long x3), .second, .val (.long x4), .second, .val (.int x5), .val (.ref a1), .unset, .unset, .unset, .unset]) rfl kq) ?_
    show own_Goes _ _ _ _ _ _ _ (T14.setTop (mkF m 9 #[.val (.long x0), .second, .val (.long x1), .second, .val (.long x2), .second, .val (.long x3), .second, .val (.long x4), .second, .val (.int x5), .val (.ref a1), .unset, .unset, .unset, .unset] []))
    obtain ⟨lz15, lw15, lk15, ls15, ld15, lp15⟩ := own_W.lts B14
    obtain ⟨T16, h16, X16, e16, E16, A16, D16, -, st16⟩ := newO Y14 hx hZ hown (own_at hw 22 rfl) (own_at hw 23 rfl) (own_at hw 24 rfl) rfl (g := (mkF m 9 #[.val (.long x0), .second, .val (.long x1), .second, .val (.long x2), .second, .val (.long x3), .second, .val (.long x4), .second, .val (.int x5), .val (.ref a1), .unset, .unset, .unset, .unset] [])) rfl (hb hby at_9) (by decide) (by decide)
    obtain ⟨a16, g16⟩ : ∃ z, z = T14.heap.size := ⟨_, rfl⟩
    rw [← g16] at A16 D16 st16
    have f17 : Fld Z h16 a16 "com/example/strati/strati/sim/Entry" "size" "J" (.long (0 : Int64)) := D16 (Or.inr (own_at hw 35 rfl)) (ty := .long) (by decide)
    have f18 : Fld Z h16 a16 "com/example/strati/strati/sim/Entry" "delete" "Z" (.int (0 : Int32)) := D16 (Or.inr (own_at hw 37 rfl)) (ty := .boolean) (by decide)
    have ga16 : n0 ≤ a16 := Nat.le_trans lz15 (Nat.le_of_eq g16.symm)
    have Z16 : n0 ≤ h16.size := Nat.le_trans lz15 E16.1
    refine own_Goes.step st16 ?_
    have en_w : a16 ≠ a1 := by rw [g16]; exact Ne.symm (Nat.ne_of_lt lw15)
    have en_kA : a16 ≠ kA := by rw [g16]; exact Ne.symm (Nat.ne_of_lt lk15)
    have en_sA : a16 ≠ sA := by rw [g16]; exact Ne.symm (Nat.ne_of_lt ls15)
    have en_dA : a16 ≠ dA := by rw [g16]; exact Ne.symm (Nat.ne_of_lt ld15)
    have en_pA : a16 ≠ pA := by rw [g16]; exact Ne.symm (Nat.ne_of_lt lp15)
    have Bn16 := own_W.ext B14 E16
    show own_Goes _ _ _ _ _ _ _ (T16.setTop (mkF m 12 #[.val (.long x0), .second, .val (.long x1), .second, .val (.long x2), .second, .val (.long x3), .second, .val (.long x4), .second, .val (.int x5), .val (.ref a1), .unset, .unset, .unset, .unset] [(.ref a16)]))
    refine own_Goes.step (fun tq kq => XS.dup X16.here hx rfl (hb hby at_12) rfl rfl kq) ?_
    show own_Goes _ _ _ _ _ _ _ (T16.setTop (mkF m 13 #[.val (.long x0), .second, .val (.long x1), .second, .val (.long x2), .second, .val (.long x3), .second, .val (.long x4), .second, .val (.int x5), .val (.ref a1), .unset, .unset, .unset, .unset] [(.ref a16), (.ref a16)]))
    refine own_Goes.step (fun tq kq => XT.lload X16.here hx rfl (hb hby at_13) rfl kq) ?_
    show own_Goes _ _ _ _ _ _ _ (T16.setTop (mkF m 15 #[.val (.long x0), .second, .val (.long x1), .second, .val (.long x2), .second, .val (.long x3), .second, .val (.long x4), .second, .val (.int x5), .val (.ref a1), .unset, .unset, .unset, .unset] [(.long x3), (.ref a16), (.ref a16)]))
    refine own_Goes.step (fun tq kq => XS.iload X16.here hx rfl (hb hby at_15) rfl kq) ?_
    show own_Goes _ _ _ _ _ _ _ (T16.setTop (mkF m 17 #[.val (.long x0), .second, .val (.long x1), .second, .val (.long x2), .second, .val (.long x3), .second, .val (.long x4), .second, .val (.int x5), .val (.ref a1), .unset, .unset, .unset, .unset] [(.int x5), (.long x3), (.ref a16), (.ref a16)]))
    refine own_Goes.step (fun tq kq => XT.iconstV X16.here hx rfl (1 : Int32) (hb hby at_17) (by decide) kq) ?_
    show own_Goes _ _ _ _ _ _ _ (T16.setTop (mkF m 18 #[.val (.long x0), .second, .val (.long x1), .second, .val (.long x2), .second, .val (.long x3), .second, .val (.long x4), .second, .val (.int x5), .val (.ref a1), .unset, .unset, .unset, .unset] [(.int (1 : Int32)), (.int x5), (.long x3), (.ref a16), (.ref a16)]))
    refine own_Goes.step (fun tq kq => XS.iand X16.here hx rfl (hb hby at_18) rfl kq) ?_
    show own_Goes _ _ _ _ _ _ _ (T16.setTop (mkF m 19 #[.val (.long x0), .second, .val (.long x1), .second, .val (.long x2), .second, .val (.long x3), .second, .val (.long x4), .second, .val (.int x5), .val (.ref a1), .unset, .unset, .unset, .unset] [(.int (x5 &&& (1 : Int32))), (.long x3), (.ref a16), (.ref a16)]))
    have J81 : own_Goes p e below s (own_F0 Z x0 x1 x2 x3 x4 x5 n0 h0) room_1.cells room_1.slots (T16.setTop (mkF m 27 #[.val (.long x0), .second, .val (.long x1), .second, .val (.long x2), .second, .val (.long x3), .second, .val (.long x4), .second, .val (.int x5), .val (.ref a1), .unset, .unset, .unset, .unset] [(.int (own_f0_1 x0 x1 x2 x3 x4 x5)), (.long x3), (.ref a16), (.ref a16)])) := by
      obtain ⟨w21, T21, L21, q21, Y21, st21⟩ := own_spec X16 hx hZ e16 rfl hown (own_at hw 25 rfl) (own_at hw 26 rfl) (own_at hw 24 rfl) (own_at hw 27 rfl) (by decide) (own_m3 l Z a0 hw [] a16 x3 (own_f0_1 x0 x1 x2 x3 x4 x5) n0 h16 A16 ga16 f17 f18 (own_flA x0 x1 x2 x3 x4 x5) ) (by decide) (W := 1) (by decide) (by decide) (by decide) (g := (mkF m 27 #[.val (.long x0), .second, .val (.long x1), .second, .val (.long x2), .second, .val (.long x3), .second, .val (.long x4), .second, .val (.int x5), .val (.ref a1), .unset, .unset, .unset, .unset] [(.int (own_f0_1 x0 x1 x2 x3 x4 x5)), (.long x3), (.ref a16), (.ref a16)])) rfl (by rw [hml]; rfl) (a := a16) (argsL := [(.long x3), (.int (own_f0_1 x0 x1 x2 x3 x4 x5))]) (rest := [(.ref a16)]) (lenOf pd_3 rfl) rfl (by show 2 * 0 + _ ≤ _; exact Nat.le_of_eq rfl) (hb hby at_27)
      obtain ⟨rfl, N21, K21, E21, c21_0, c21_1⟩ := q21
      have N25 := Fr.app Nn14 N21
      have Z26 : n0 ≤ T21.heap.size := Nat.le_trans Z16 K21.1
      refine own_Goes.step st21 ?_
      have Bn21 := own_W.keep Bn16 K21 (own_nin (Ne.symm en_w)) (own_nin (Ne.symm en_kA)) (own_nin (Ne.symm en_sA)) (own_nin (Ne.symm en_dA)) (own_nin (Ne.symm en_pA))
      show own_Goes _ _ _ _ _ _ _ (T21.setTop (mkF m 30 #[.val (.long x0), .second, .val (.long x1), .second, .val (.long x2), .second, .val (.long x3), .second, .val (.long x4), .second, .val (.int x5), .val (.ref a1), .unset, .unset, .unset, .unset] [(.ref a16)]))
      refine own_Goes.step (fun tq kq => XS.astore Y21.here hx rfl (hb hby at_30) rfl rfl (l' := #[.val (.long x0), .second, .val (.long x1), .second, .val (.long x2), .second, .val (.long x3), .second, .val (.long x4), .second, .val (.int x5), .val (.ref a1), .val (.ref a16), .unset, .unset, .unset]) rfl kq) ?_
      show own_Goes _ _ _ _ _ _ _ (T21.setTop (mkF m 32 #[.val (.long x0), .second, .val (.long x1), .second, .val (.long x2), .second, .val (.long x3), .second, .val (.long x4), .second, .val (.int x5), .val (.ref a1), .val (.ref a16), .unset, .unset, .unset] []))
      refine own_Goes.step (fun tq kq => XS.aload Y21.here hx rfl (hb hby at_32) rfl rfl kq) ?_
      show own_Goes _ _ _ _ _ _ _ (T21.setTop (mkF m 34 #[.val (.long x0), .second, .val (.long x1), .second, .val (.long x2), .second, .val (.long x3), .second, .val (.long x4), .second, .val (.int x5), .val (.ref a1), .val (.ref a16), .unset, .unset, .unset] [(.ref a1)]))
      refine own_Goes.step (fun tq kq => XT.lloadN Y21.here hx rfl (hb hby at_34) rfl kq) ?_
      show own_Goes _ _ _ _ _ _ _ (T21.setTop (mkF m 35 #[.val (.long x0), .second, .val (.long x1), .second, .val (.long x2), .second, .val (.long x3), .second, .val (.long x4), .second, .val (.int x5), .val (.ref a1), .val (.ref a16), .unset, .unset, .unset] [(.long x0), (.ref a1)]))
      refine own_Goes.step (fun tq kq => XS.aload Y21.here hx rfl (hb hby at_35) rfl rfl kq) ?_
      show own_Goes _ _ _ _ _ _ _ (T21.setTop (mkF m 37 #[.val (.long x0), .second, .val (.long x1), .second, .val (.long x2), .second, .val (.long x3), .second, .val (.long x4), .second, .val (.int x5), .val (.ref a1), .val (.ref a16), .unset, .unset, .unset] [(.ref a16), (.long x0), (.ref a1)]))
      obtain ⟨w28, T28, L28, q28, Y28, st28⟩ := own_virt Y21 hx hZ rfl (own_W.exa Bn21) hown (own_at hw 38 rfl) (own_at hw 39 rfl) (own_at hw 41 rfl) (own_at hw 40 rfl) (own_at hw 2 rfl) (own_at hw 42 rfl) (by decide) (own_m5n l Z a0 hw [] a1 x0 a16 kA sA dA pA (fun _ => 0) (fun _ => 0) (fun _ => 0) 0 0 0 0 (-1 : Int32) 0 (own_f3_size x3 (own_f0_1 x0 x1 x2 x3 x4 x5)) (own_f3_delete x3 (own_f0_1 x0 x1 x2 x3 x4 x5)) n0 T21.heap Bn21 E21 c21_0 c21_1 (own_flA x0 x1 x2 x3 x4 x5) en_w en_kA en_sA en_dA en_pA (by decide)) (by decide) (W := 0) (by decide) (by decide) (by decide) (g := (mkF m 37 #[.val (.long x0), .second, .val (.long x1), .second, .val (.long x2), .second, .val (.long x3), .second, .val (.long x4), .second, .val (.int x5), .val (.ref a1), .val (.ref a16), .unset, .unset, .unset] [(.ref a16), (.long x0), (.ref a1)])) rfl (by rw [hml]; rfl) (argsL := [(.long x0), (.ref a16)]) (rest := []) (lenOf pd_5 rfl) rfl (by show 2 * 0 + _ ≤ _; exact Nat.le_of_eq rfl) (hb hby at_37)
      obtain ⟨rfl, N28, K28, fs28, mx28, am28, -, B28⟩ := q28
      have Nn28 := Fr.app N25 N28
      have f29 := E21.keep K28
      have f30 := c21_0.keep K28 (own_nin4 en_w en_kA en_sA en_dA)
      have f31 := c21_1.keep K28 (own_nin4 en_w en_kA en_sA en_dA)
      refine own_Goes.step st28 ?_
      show own_Goes _ _ _ _ _ _ _ (T28.setTop (mkF m 40 #[.val (.long x0), .second, .val (.long x1), .second, .val (.long x2), .second, .val (.long x3), .second, .val (.long x4), .second, .val (.int x5), .val (.ref a1), .val (.ref a16), .unset, .unset, .unset] []))
      have JC : ∀ (T : State) (lc : List Loc) (h : Heap) (X : Stand p l e room_1 s m #[(.long x0), (.long x1), (.long x2), (.long x3), (.long x4), (.int x5)] below meth c T lc 10 120) (eT : T.heap = h) (NN : Fr n0 lc) (K Sz : Nat → Int64) (D : Nat → Int32) (fs : Int64) (mx am la : Int32) (BB : own_W Z h n0 a1 kA sA dA pA .null K Sz D 0 fs mx am 0 la), own_Goes p e below s (own_F0 Z x0 x1 x2 x3 x4 x5 n0 h0) room_1.cells room_1.slots (T.setTop (mkF m 74 #[.val (.long x0), .second, .val (.long x1), .second, .val (.long x2), .second, .val (.long x3), .second, .val (.long x4), .second, .val (.int x5), .val (.ref a1), .val (.ref a16), .unset, .unset, .unset] [])) := by
        intro T lc h X eT NN K Sz D fs mx am la BB
        refine own_Goes.step (fun tq kq => XS.aload X.here hx rfl (hb hby at_74) rfl rfl kq) ?_
        show own_Goes _ _ _ _ _ _ _ (T.setTop (mkF m 76 #[.val (.long x0), .second, .val (.long x1), .second, .val (.long x2), .second, .val (.long x3), .second, .val (.long x4), .second, .val (.int x5), .val (.ref a1), .val (.ref a16), .unset, .unset, .unset] [(.ref a1)]))
        obtain ⟨w32, T32, L32, q32, Y32, st32⟩ := own_virt X hx hZ eT (own_W.exa BB) hown (own_at hw 70 rfl) (own_at hw 71 rfl) (own_at hw 73 rfl) (own_at hw 72 rfl) (own_at hw 2 rfl) (own_at hw 74 rfl) (by decide) (own_m9 l Z a0 hw [] a1 (Int32.ofNat 0) h (own_W.count BB) ) (by decide) (W := 0) (by decide) (by decide) (by decide) (g := (mkF m 76 #[.val (.long x0), .second, .val (.long x1), .second, .val (.long x2), .second, .val (.long x3), .second, .val (.long x4), .second, .val (.int x5), .val (.ref a1), .val (.ref a16), .unset, .unset, .unset] [(.ref a1)])) rfl (by rw [hml]; rfl) (argsL := []) (rest := []) (lenOf pd_9 rfl) rfl (by show 2 * 0 + _ ≤ _; exact Nat.le_of_eq rfl) (hb hby at_76)
        obtain ⟨e32, X32⟩ := own_clean q32 Y32 rfl rfl
        obtain ⟨rfl, -, -⟩ := q32
        refine own_Goes.step st32 ?_
        show own_Goes _ _ _ _ _ _ _ (T32.setTop (mkF m 79 #[.val (.long x0), .second, .val (.long x1), .second, .val (.long x2), .second, .val (.long x3), .second, .val (.long x4), .second, .val (.int x5), .val (.ref a1), .val (.ref a16), .unset, .unset, .unset] [(.int (own_f9 (Int32.ofNat 0)))]))
        refine own_Goes.step (fun tq kq => XS.ifYes X32.here hx rfl (pc0 := 79) (pc' := 84) rfl (hb hby at_79) rfl (XT.i0_ne_t (by decide)) (by decide) (by decide) kq) ?_
        show own_Goes _ _ _ _ _ _ _ (T32.setTop (mkF m 84 #[.val (.long x0), .second, .val (.long x1), .second, .val (.long x2), .second, .val (.long x3), .second, .val (.long x4), .second, .val (.int x5), .val (.ref a1), .val (.ref a16), .unset, .unset, .unset] []))
        refine own_Goes.step (fun tq kq => XS.aload X32.here hx rfl (hb hby at_84) rfl rfl kq) ?_
        show own_Goes _ _ _ _ _ _ _ (T32.setTop (mkF m 86 #[.val (.long x0), .second, .val (.long x1), .second, .val (.long x2), .second, .val (.long x3), .second, .val (.long x4), .second, .val (.int x5), .val (.ref a1), .val (.ref a16), .unset, .unset, .unset] [(.ref a1)]))
        refine own_Goes.step (fun tq kq => XT.lloadN X32.here hx rfl (hb hby at_86) rfl kq) ?_
        show own_Goes _ _ _ _ _ _ _ (T32.setTop (mkF m 87 #[.val (.long x0), .second, .val (.long x1), .second, .val (.long x2), .second, .val (.long x3), .second, .val (.long x4), .second, .val (.int x5), .val (.ref a1), .val (.ref a16), .unset, .unset, .unset] [(.long x0), (.ref a1)]))
        obtain ⟨w33, T33, L33, q33, Y33, st33⟩ := own_virt X32 hx hZ e32 (own_W.exa BB) hown (own_at hw 75 rfl) (own_at hw 76 rfl) (own_at hw 78 rfl) (own_at hw 77 rfl) (own_at hw 2 rfl) (own_at hw 79 rfl) (by decide) (own_m10n l Z a0 hw [] a1 x0 kA sA dA pA K Sz D 0 fs mx am la (0 : Int32) n0 h BB (by decide)) (by decide) (W := 0) (by decide) (by decide) (by decide) (g := (mkF m 87 #[.val (.long x0), .second, .val (.long x1), .second, .val (.long x2), .second, .val (.long x3), .second, .val (.long x4), .second, .val (.int x5), .val (.ref a1), .val (.ref a16), .unset, .unset, .unset] [(.long x0), (.ref a1)])) rfl (by rw [hml]; rfl) (argsL := [(.long x0)]) (rest := []) (lenOf pd_10 rfl) rfl (by show 2 * 0 + _ ≤ _; exact Nat.le_of_eq rfl) (hb hby at_87)
        obtain ⟨rfl, N33, K33, iA, S33, ixn33, lb33, hbl33, hiA33, B33, I33⟩ := q33
        have Nn33 := Fr.app NN N33
        have IV33 := own_bld_inv (by decide) hbl33
        refine own_Goes.step st33 ?_
        show own_Goes _ _ _ _ _ _ _ (T33.setTop (mkF m 90 #[.val (.long x0), .second, .val (.long x1), .second, .val (.long x2), .second, .val (.long x3), .second, .val (.long x4), .second, .val (.int x5), .val (.ref a1), .val (.ref a16), .unset, .unset, .unset] [(.int (own_bi (own_mem K 0 x0)))]))
        refine own_Goes.step (fun tq kq => XS.ifYes Y33.here hx rfl (pc0 := 90) (pc' := 95) rfl (hb hby at_90) rfl (XT.i0_eq_t (rfl)) (by decide) (by decide) kq) ?_
        show own_Goes _ _ _ _ _ _ _ (T33.setTop (mkF m 95 #[.val (.long x0), .second, .val (.long x1), .second, .val (.long x2), .second, .val (.long x3), .second, .val (.long x4), .second, .val (.int x5), .val (.ref a1), .val (.ref a16), .unset, .unset, .unset] []))
        refine own_Goes.step (fun tq kq => XS.iload Y33.here hx rfl (hb hby at_95) rfl kq) ?_
        show own_Goes _ _ _ _ _ _ _ (T33.setTop (mkF m 97 #[.val (.long x0), .second, .val (.long x1), .second, .val (.long x2), .second, .val (.long x3), .second, .val (.long x4), .second, .val (.int x5), .val (.ref a1), .val (.ref a16), .unset, .unset, .unset] [(.int x5)]))
        refine own_Goes.step (fun tq kq => XT.bipushV Y33.here hx rfl (8 : Int32) (hb hby at_97) (by decide) kq) ?_
        show own_Goes _ _ _ _ _ _ _ (T33.setTop (mkF m 99 #[.val (.long x0), .second, .val (.long x1), .second, .val (.long x2), .second, .val (.long x3), .second, .val (.long x4), .second, .val (.int x5), .val (.ref a1), .val (.ref a16), .unset, .unset, .unset] [(.int (8 : Int32)), (.int x5)]))
        refine own_Goes.step (fun tq kq => XS.iand Y33.here hx rfl (hb hby at_99) rfl kq) ?_
        show own_Goes _ _ _ _ _ _ _ (T33.setTop (mkF m 100 #[.val (.long x0), .second, .val (.long x1), .second, .val (.long x2), .second, .val (.long x3), .second, .val (.long x4), .second, .val (.int x5), .val (.ref a1), .val (.ref a16), .unset, .unset, .unset] [(.int (x5 &&& (8 : Int32)))]))
        have J61 : own_Goes p e below s (own_F0 Z x0 x1 x2 x3 x4 x5 n0 h0) room_1.cells room_1.slots (T33.setTop (mkF m 109 #[.val (.long x0), .second, .val (.long x1), .second, .val (.long x2), .second, .val (.long x3), .second, .val (.long x4), .second, .val (.int x5), .val (.ref a1), .val (.ref a16), .unset, .unset, .unset] [(.long (own_f0_2 x0 x1 x2 x3 x4 x5))])) := by
          refine own_Goes.step (fun tq kq => XT.lstore Y33.here hx rfl (hb hby at_109) rfl (l' := #[.val (.long x0), .second, .val (.long x1), .second, .val (.long x2), .second, .val (.long x3), .second, .val (.long x4), .second, .val (.int x5), .val (.ref a1), .val (.ref a16), .val (.long (own_f0_2 x0 x1 x2 x3 x4 x5)), .second, .unset]) rfl kq) ?_
          show own_Goes _ _ _ _ _ _ _ (T33.setTop (mkF m 111 #[.val (.long x0), .second, .val (.long x1), .second, .val (.long x2), .second, .val (.long x3), .second, .val (.long x4), .second, .val (.int x5), .val (.ref a1), .val (.ref a16), .val (.long (own_f0_2 x0 x1 x2 x3 x4 x5)), .second, .unset] []))
          refine own_Goes.step (fun tq kq => XS.aload Y33.here hx rfl (hb hby at_111) rfl rfl kq) ?_
          show own_Goes _ _ _ _ _ _ _ (T33.setTop (mkF m 113 #[.val (.long x0), .second, .val (.long x1), .second, .val (.long x2), .second, .val (.long x3), .second, .val (.long x4), .second, .val (.int x5), .val (.ref a1), .val (.ref a16), .val (.long (own_f0_2 x0 x1 x2 x3 x4 x5)), .second, .unset] [(.ref a1)]))
          refine own_Goes.step (fun tq kq => XT.lload Y33.here hx rfl (hb hby at_113) rfl kq) ?_
          show own_Goes _ _ _ _ _ _ _ (T33.setTop (mkF m 115 #[.val (.long x0), .second, .val (.long x1), .second, .val (.long x2), .second, .val (.long x3), .second, .val (.long x4), .second, .val (.int x5), .val (.ref a1), .val (.ref a16), .val (.long (own_f0_2 x0 x1 x2 x3 x4 x5)), .second, .unset] [(.long (own_f0_2 x0 x1 x2 x3 x4 x5)), (.ref a1)]))
          obtain ⟨lz35, lw35, lk35, ls35, ld35, lp35⟩ := own_W.lts B33
          have li35 := I33.1.lt
          obtain ⟨T36, h36, X36, e36, E36, A36, D36, -, st36⟩ := newO Y33 hx hZ hown (own_at hw 22 rfl) (own_at hw 23 rfl) (own_at hw 24 rfl) rfl (g := (mkF m 115 #[.val (.long x0), .second, .val (.long x1), .second, .val (.long x2), .second, .val (.long x3), .second, .val (.long x4), .second, .val (.int x5), .val (.ref a1), .val (.ref a16), .val (.long (own_f0_2 x0 x1 x2 x3 x4 x5)), .second, .unset] [(.long (own_f0_2 x0 x1 x2 x3 x4 x5)), (.ref a1)])) rfl (hb hby at_115) (by decide) (by decide)
          obtain ⟨a36, g36⟩ : ∃ z, z = T33.heap.size := ⟨_, rfl⟩
          rw [← g36] at A36 D36 st36
          have f37 : Fld Z h36 a36 "com/example/strati/strati/sim/Entry" "size" "J" (.long (0 : Int64)) := D36 (Or.inr (own_at hw 35 rfl)) (ty := .long) (by decide)
          have f38 : Fld Z h36 a36 "com/example/strati/strati/sim/Entry" "delete" "Z" (.int (0 : Int32)) := D36 (Or.inr (own_at hw 37 rfl)) (ty := .boolean) (by decide)
          have ga36 : n0 ≤ a36 := Nat.le_trans lz35 (Nat.le_of_eq g36.symm)
          have Z36 : n0 ≤ h36.size := Nat.le_trans lz35 E36.1
          refine own_Goes.step st36 ?_
          have en_w : a36 ≠ a1 := by rw [g36]; exact Ne.symm (Nat.ne_of_lt lw35)
          have en_kA : a36 ≠ kA := by rw [g36]; exact Ne.symm (Nat.ne_of_lt lk35)
          have en_sA : a36 ≠ sA := by rw [g36]; exact Ne.symm (Nat.ne_of_lt ls35)
          have en_dA : a36 ≠ dA := by rw [g36]; exact Ne.symm (Nat.ne_of_lt ld35)
          have en_pA : a36 ≠ pA := by rw [g36]; exact Ne.symm (Nat.ne_of_lt lp35)
          have en_iA : a36 ≠ iA := by rw [g36]; exact Ne.symm (Nat.ne_of_lt li35)
          have Bn36 := own_W.ext B33 E36
          have In36 := own_I.ext I33 E36
          show own_Goes _ _ _ _ _ _ _ (T36.setTop (mkF m 118 #[.val (.long x0), .second, .val (.long x1), .second, .val (.long x2), .second, .val (.long x3), .second, .val (.long x4), .second, .val (.int x5), .val (.ref a1), .val (.ref a16), .val (.long (own_f0_2 x0 x1 x2 x3 x4 x5)), .second, .unset] [(.ref a36), (.long (own_f0_2 x0 x1 x2 x3 x4 x5)), (.ref a1)]))
          refine own_Goes.step (fun tq kq => XS.dup X36.here hx rfl (hb hby at_118) rfl rfl kq) ?_
          show own_Goes _ _ _ _ _ _ _ (T36.setTop (mkF m 119 #[.val (.long x0), .second, .val (.long x1), .second, .val (.long x2), .second, .val (.long x3), .second, .val (.long x4), .second, .val (.int x5), .val (.ref a1), .val (.ref a16), .val (.long (own_f0_2 x0 x1 x2 x3 x4 x5)), .second, .unset] [(.ref a36), (.ref a36), (.long (own_f0_2 x0 x1 x2 x3 x4 x5)), (.ref a1)]))
          refine own_Goes.step (fun tq kq => XT.lload X36.here hx rfl (hb hby at_119) rfl kq) ?_
          show own_Goes _ _ _ _ _ _ _ (T36.setTop (mkF m 121 #[.val (.long x0), .second, .val (.long x1), .second, .val (.long x2), .second, .val (.long x3), .second, .val (.long x4), .second, .val (.int x5), .val (.ref a1), .val (.ref a16), .val (.long (own_f0_2 x0 x1 x2 x3 x4 x5)), .second, .unset] [(.long x4), (.ref a36), (.ref a36), (.long (own_f0_2 x0 x1 x2 x3 x4 x5)), (.ref a1)]))
          refine own_Goes.step (fun tq kq => XS.iload X36.here hx rfl (hb hby at_121) rfl kq) ?_
          show own_Goes _ _ _ _ _ _ _ (T36.setTop (mkF m 123 #[.val (.long x0), .second, .val (.long x1), .second, .val (.long x2), .second, .val (.long x3), .second, .val (.long x4), .second, .val (.int x5), .val (.ref a1), .val (.ref a16), .val (.long (own_f0_2 x0 x1 x2 x3 x4 x5)), .second, .unset] [(.int x5), (.long x4), (.ref a36), (.ref a36), (.long (own_f0_2 x0 x1 x2 x3 x4 x5)), (.ref a1)]))
          refine own_Goes.step (fun tq kq => XT.bipushV X36.here hx rfl (16 : Int32) (hb hby at_123) (by decide) kq) ?_
          show own_Goes _ _ _ _ _ _ _ (T36.setTop (mkF m 125 #[.val (.long x0), .second, .val (.long x1), .second, .val (.long x2), .second, .val (.long x3), .second, .val (.long x4), .second, .val (.int x5), .val (.ref a1), .val (.ref a16), .val (.long (own_f0_2 x0 x1 x2 x3 x4 x5)), .second, .unset] [(.int (16 : Int32)), (.int x5), (.long x4), (.ref a36), (.ref a36), (.long (own_f0_2 x0 x1 x2 x3 x4 x5)), (.ref a1)]))
          refine own_Goes.step (fun tq kq => XS.iand X36.here hx rfl (hb hby at_125) rfl kq) ?_
          show own_Goes _ _ _ _ _ _ _ (T36.setTop (mkF m 126 #[.val (.long x0), .second, .val (.long x1), .second, .val (.long x2), .second, .val (.long x3), .second, .val (.long x4), .second, .val (.int x5), .val (.ref a1), .val (.ref a16), .val (.long (own_f0_2 x0 x1 x2 x3 x4 x5)), .second, .unset] [(.int (x5 &&& (16 : Int32))), (.long x4), (.ref a36), (.ref a36), (.long (own_f0_2 x0 x1 x2 x3 x4 x5)), (.ref a1)]))
          have J60 : own_Goes p e below s (own_F0 Z x0 x1 x2 x3 x4 x5 n0 h0) room_1.cells room_1.slots (T36.setTop (mkF m 134 #[.val (.long x0), .second, .val (.long x1), .second, .val (.long x2), .second, .val (.long x3), .second, .val (.long x4), .second, .val (.int x5), .val (.ref a1), .val (.ref a16), .val (.long (own_f0_2 x0 x1 x2 x3 x4 x5)), .second, .unset] [(.int (own_f0_3 x0 x1 x2 x3 x4 x5)), (.long x4), (.ref a36), (.ref a36), (.long (own_f0_2 x0 x1 x2 x3 x4 x5)), (.ref a1)])) := by
            obtain ⟨w41, T41, L41, q41, Y41, st41⟩ := own_spec X36 hx hZ e36 rfl hown (own_at hw 25 rfl) (own_at hw 26 rfl) (own_at hw 24 rfl) (own_at hw 27 rfl) (by decide) (own_m3 l Z a0 hw [] a36 x4 (own_f0_3 x0 x1 x2 x3 x4 x5) n0 h36 A36 ga36 f37 f38 (own_flB x0 x1 x2 x3 x4 x5) ) (by decide) (W := 4) (by decide) (by decide) (by decide) (g := (mkF m 134 #[.val (.long x0), .second, .val (.long x1), .second, .val (.long x2), .second, .val (.long x3), .second, .val (.long x4), .second, .val (.int x5), .val (.ref a1), .val (.ref a16), .val (.long (own_f0_2 x0 x1 x2 x3 x4 x5)), .second, .unset] [(.int (own_f0_3 x0 x1 x2 x3 x4 x5)), (.long x4), (.ref a36), (.ref a36), (.long (own_f0_2 x0 x1 x2 x3 x4 x5)), (.ref a1)])) rfl (by rw [hml]; rfl) (a := a36) (argsL := [(.long x4), (.int (own_f0_3 x0 x1 x2 x3 x4 x5))]) (rest := [(.ref a36), (.long (own_f0_2 x0 x1 x2 x3 x4 x5)), (.ref a1)]) (lenOf pd_3 rfl) rfl (by show 2 * 0 + _ ≤ _; exact Nat.le_of_eq rfl) (hb hby at_134)
            obtain ⟨rfl, N41, K41, E41, c41_0, c41_1⟩ := q41
            have N45 := Fr.app Nn33 N41
            have Z46 : n0 ≤ T41.heap.size := Nat.le_trans Z36 K41.1
            refine own_Goes.step st41 ?_
            have Bn41 := own_W.keep Bn36 K41 (own_nin (Ne.symm en_w)) (own_nin (Ne.symm en_kA)) (own_nin (Ne.symm en_sA)) (own_nin (Ne.symm en_dA)) (own_nin (Ne.symm en_pA))
            have In41 := own_I.keep In36 K41 (own_nin (Ne.symm en_iA))
            show own_Goes _ _ _ _ _ _ _ (T41.setTop (mkF m 137 #[.val (.long x0), .second, .val (.long x1), .second, .val (.long x2), .second, .val (.long x3), .second, .val (.long x4), .second, .val (.int x5), .val (.ref a1), .val (.ref a16), .val (.long (own_f0_2 x0 x1 x2 x3 x4 x5)), .second, .unset] [(.ref a36), (.long (own_f0_2 x0 x1 x2 x3 x4 x5)), (.ref a1)]))
            have hbl48 : own_bld (own_setJ K 0 (own_f0_2 x0 x1 x2 x3 x4 x5)) la 0 = some (S33, ixn33, lb33) := (own_bld_congr 0 (by decide) (fun j hj => (if_neg (Nat.ne_of_lt hj)).symm)).symm.trans hbl33
            have IV48 := own_bld_inv (by decide) hbl48
            obtain ⟨t48, ht48, hm48⟩ := IV48.find (by decide) (own_f0_2 x0 x1 x2 x3 x4 x5)
            obtain ⟨w48, T48, L48, q48, Y48, st48⟩ := own_virt Y41 hx hZ rfl (own_W.exa Bn41) hown (own_at hw 38 rfl) (own_at hw 39 rfl) (own_at hw 41 rfl) (own_at hw 40 rfl) (own_at hw 2 rfl) (own_at hw 42 rfl) (by decide) (own_m5s l Z a0 hw [] a1 (own_f0_2 x0 x1 x2 x3 x4 x5) a36 kA sA dA pA K Sz D 0 fs mx am lb33 (Int32.ofNat ixn33) (own_f3_size x4 (own_f0_3 x0 x1 x2 x3 x4 x5)) (own_f3_delete x4 (own_f0_3 x0 x1 x2 x3 x4 x5)) iA S33 t48 n0 T41.heap Bn41 In41 E41 c41_0 c41_1 (own_flB x0 x1 x2 x3 x4 x5) en_w en_kA en_sA en_dA en_pA (by decide) en_iA (IV48.1.ok (by decide)) hm48 ht48 (own_ix8 (by have := IV48.2.1; omega))) (by decide) (W := 0) (by decide) (by decide) (by decide) (g := (mkF m 137 #[.val (.long x0), .second, .val (.long x1), .second, .val (.long x2), .second, .val (.long x3), .second, .val (.long x4), .second, .val (.int x5), .val (.ref a1), .val (.ref a16), .val (.long (own_f0_2 x0 x1 x2 x3 x4 x5)), .second, .unset] [(.ref a36), (.long (own_f0_2 x0 x1 x2 x3 x4 x5)), (.ref a1)])) rfl (by rw [hml]; rfl) (argsL := [(.long (own_f0_2 x0 x1 x2 x3 x4 x5)), (.ref a36)]) (rest := []) (lenOf pd_5 rfl) rfl (by show 2 * 0 + _ ≤ _; exact Nat.le_of_eq rfl) (hb hby at_137)
            obtain ⟨rfl, N48, K48, fs48, mx48, am48, hz48, hif48⟩ := q48
            have Nn48 := Fr.app N45 N48
            obtain ⟨ez, em, ea⟩ := hz48 rfl
            rw [if_pos (own_S0 hbl48 t48), ez, em, ea] at hif48
            obtain ⟨B48, I48⟩ := hif48
            have IVf := IV48.ins (by decide) hm48
            rw [if_pos (own_S0 hbl48 t48), if_pos (own_S0 hbl48 t48)] at IVf
            refine own_Goes.step st48 ?_
            show own_Goes _ _ _ _ _ _ _ (T48.setTop (mkF m 140 #[.val (.long x0), .second, .val (.long x1), .second, .val (.long x2), .second, .val (.long x3), .second, .val (.long x4), .second, .val (.int x5), .val (.ref a1), .val (.ref a16), .val (.long (own_f0_2 x0 x1 x2 x3 x4 x5)), .second, .unset] []))
            refine own_Goes.step (fun tq kq => XS.aload Y48.here hx rfl (hb hby at_140) rfl rfl kq) ?_
            show own_Goes _ _ _ _ _ _ _ (T48.setTop (mkF m 142 #[.val (.long x0), .second, .val (.long x1), .second, .val (.long x2), .second, .val (.long x3), .second, .val (.long x4), .second, .val (.int x5), .val (.ref a1), .val (.ref a16), .val (.long (own_f0_2 x0 x1 x2 x3 x4 x5)), .second, .unset] [(.ref a1)]))
            obtain ⟨w49, T49, L49, q49, Y49, st49⟩ := own_virt Y48 hx hZ rfl (own_W.exa B48) hown (own_at hw 70 rfl) (own_at hw 71 rfl) (own_at hw 73 rfl) (own_at hw 72 rfl) (own_at hw 2 rfl) (own_at hw 74 rfl) (by decide) (own_m9 l Z a0 hw [] a1 (Int32.ofNat 1) T48.heap (own_W.count B48) ) (by decide) (W := 0) (by decide) (by decide) (by decide) (g := (mkF m 142 #[.val (.long x0), .second, .val (.long x1), .second, .val (.long x2), .second, .val (.long x3), .second, .val (.long x4), .second, .val (.int x5), .val (.ref a1), .val (.ref a16), .val (.long (own_f0_2 x0 x1 x2 x3 x4 x5)), .second, .unset] [(.ref a1)])) rfl (by rw [hml]; rfl) (argsL := []) (rest := []) (lenOf pd_9 rfl) rfl (by show 2 * 0 + _ ≤ _; exact Nat.le_of_eq rfl) (hb hby at_142)
            obtain ⟨e49, X49⟩ := own_clean q49 Y49 rfl rfl
            obtain ⟨rfl, -, -⟩ := q49
            refine own_Goes.step st49 ?_
            show own_Goes _ _ _ _ _ _ _ (T49.setTop (mkF m 145 #[.val (.long x0), .second, .val (.long x1), .second, .val (.long x2), .second, .val (.long x3), .second, .val (.long x4), .second, .val (.int x5), .val (.ref a1), .val (.ref a16), .val (.long (own_f0_2 x0 x1 x2 x3 x4 x5)), .second, .unset] [(.int (own_f9 (Int32.ofNat 1)))]))
            refine own_Goes.step (fun tq kq => XS.ifYes X49.here hx rfl (pc0 := 145) (pc' := 150) rfl (hb hby at_145) rfl (XT.i0_eq_t (by decide)) (by decide) (by decide) kq) ?_
            show own_Goes _ _ _ _ _ _ _ (T49.setTop (mkF m 150 #[.val (.long x0), .second, .val (.long x1), .second, .val (.long x2), .second, .val (.long x3), .second, .val (.long x4), .second, .val (.int x5), .val (.ref a1), .val (.ref a16), .val (.long (own_f0_2 x0 x1 x2 x3 x4 x5)), .second, .unset] []))
            refine own_Goes.step (fun tq kq => XS.aload X49.here hx rfl (hb hby at_150) rfl rfl kq) ?_
            show own_Goes _ _ _ _ _ _ _ (T49.setTop (mkF m 152 #[.val (.long x0), .second, .val (.long x1), .second, .val (.long x2), .second, .val (.long x3), .second, .val (.long x4), .second, .val (.int x5), .val (.ref a1), .val (.ref a16), .val (.long (own_f0_2 x0 x1 x2 x3 x4 x5)), .second, .unset] [(.ref a1)]))
            refine own_Goes.step (fun tq kq => XT.lload X49.here hx rfl (hb hby at_152) rfl kq) ?_
            show own_Goes _ _ _ _ _ _ _ (T49.setTop (mkF m 154 #[.val (.long x0), .second, .val (.long x1), .second, .val (.long x2), .second, .val (.long x3), .second, .val (.long x4), .second, .val (.int x5), .val (.ref a1), .val (.ref a16), .val (.long (own_f0_2 x0 x1 x2 x3 x4 x5)), .second, .unset] [(.long (own_f0_2 x0 x1 x2 x3 x4 x5)), (.ref a1)]))
            obtain ⟨t50, ht50, hm50⟩ := IVf.find (by decide) (own_f0_2 x0 x1 x2 x3 x4 x5)
            have hr50 := IVf.says hm50
            obtain ⟨w50, T50, L50, q50, Y50, st50⟩ := own_virt X49 hx hZ e49 (own_W.exa B48) hown (own_at hw 75 rfl) (own_at hw 76 rfl) (own_at hw 78 rfl) (own_at hw 77 rfl) (own_at hw 2 rfl) (own_at hw 79 rfl) (by decide) (own_m10s l Z a0 hw [] a1 (own_f0_2 x0 x1 x2 x3 x4 x5) kA sA dA pA (own_setJ K 0 (own_f0_2 x0 x1 x2 x3 x4 x5)) (own_setJ Sz 0 (own_f3_size x4 (own_f0_3 x0 x1 x2 x3 x4 x5))) (own_set D 0 (nar .boolean (own_f7 (own_f3_delete x4 (own_f0_3 x0 x1 x2 x3 x4 x5))))) 1 (own_f3_size x4 (own_f0_3 x0 x1 x2 x3 x4 x5)) 0 (own_f3_delete x4 (own_f0_3 x0 x1 x2 x3 x4 x5)) (Int32.ofNat t48) (Int32.ofNat ixn33 + (1 : Int32)) iA (own_set S33 t48 (Int32.ofNat (0 + 1))) t50 (own_mem (own_setJ K 0 (own_f0_2 x0 x1 x2 x3 x4 x5)) 1 (own_f0_2 x0 x1 x2 x3 x4 x5)) n0 T48.heap B48 I48 (IVf.1.ok (by decide)) hm50 ht50 hr50) (by decide) (W := 0) (by decide) (by decide) (by decide) (g := (mkF m 154 #[.val (.long x0), .second, .val (.long x1), .second, .val (.long x2), .second, .val (.long x3), .second, .val (.long x4), .second, .val (.int x5), .val (.ref a1), .val (.ref a16), .val (.long (own_f0_2 x0 x1 x2 x3 x4 x5)), .second, .unset] [(.long (own_f0_2 x0 x1 x2 x3 x4 x5)), (.ref a1)])) rfl (by rw [hml]; rfl) (argsL := [(.long (own_f0_2 x0 x1 x2 x3 x4 x5))]) (rest := []) (lenOf pd_10 rfl) rfl (by show 2 * 0 + _ ≤ _; exact Nat.le_of_eq rfl) (hb hby at_154)
            obtain ⟨e50, X50⟩ := own_clean q50 Y50 rfl rfl
            obtain ⟨rfl, -, -⟩ := q50
            rw [show own_bi (own_mem (own_setJ K 0 (own_f0_2 x0 x1 x2 x3 x4 x5)) 1 (own_f0_2 x0 x1 x2 x3 x4 x5)) = (1 : Int32) from own_hit rfl] at st50
            refine own_Goes.step st50 ?_
            show own_Goes _ _ _ _ _ _ _ (T50.setTop (mkF m 157 #[.val (.long x0), .second, .val (.long x1), .second, .val (.long x2), .second, .val (.long x3), .second, .val (.long x4), .second, .val (.int x5), .val (.ref a1), .val (.ref a16), .val (.long (own_f0_2 x0 x1 x2 x3 x4 x5)), .second, .unset] [(.int (1 : Int32))]))
            refine own_Goes.step (fun tq kq => XS.ifYes X50.here hx rfl (pc0 := 157) (pc' := 162) rfl (hb hby at_157) rfl (XT.i0_ne_t (by decide)) (by decide) (by decide) kq) ?_
            show own_Goes _ _ _ _ _ _ _ (T50.setTop (mkF m 162 #[.val (.long x0), .second, .val (.long x1), .second, .val (.long x2), .second, .val (.long x3), .second, .val (.long x4), .second, .val (.int x5), .val (.ref a1), .val (.ref a16), .val (.long (own_f0_2 x0 x1 x2 x3 x4 x5)), .second, .unset] []))
            refine own_Goes.step (fun tq kq => XS.aload X50.here hx rfl (hb hby at_162) rfl rfl kq) ?_
            show own_Goes _ _ _ _ _ _ _ (T50.setTop (mkF m 164 #[.val (.long x0), .second, .val (.long x1), .second, .val (.long x2), .second, .val (.long x3), .second, .val (.long x4), .second, .val (.int x5), .val (.ref a1), .val (.ref a16), .val (.long (own_f0_2 x0 x1 x2 x3 x4 x5)), .second, .unset] [(.ref a1)]))
            refine own_Goes.step (fun tq kq => XT.lloadN X50.here hx rfl (hb hby at_164) rfl kq) ?_
            show own_Goes _ _ _ _ _ _ _ (T50.setTop (mkF m 165 #[.val (.long x0), .second, .val (.long x1), .second, .val (.long x2), .second, .val (.long x3), .second, .val (.long x4), .second, .val (.int x5), .val (.ref a1), .val (.ref a16), .val (.long (own_f0_2 x0 x1 x2 x3 x4 x5)), .second, .unset] [(.long x1), (.ref a1)]))
            obtain ⟨t51, ht51, hm51⟩ := IVf.find (by decide) x1
            have hr51 := IVf.says hm51
            obtain ⟨w51, T51, L51, q51, Y51, st51⟩ := own_virt X50 hx hZ e50 (own_W.exa B48) hown (own_at hw 75 rfl) (own_at hw 76 rfl) (own_at hw 78 rfl) (own_at hw 77 rfl) (own_at hw 2 rfl) (own_at hw 79 rfl) (by decide) (own_m10s l Z a0 hw [] a1 x1 kA sA dA pA (own_setJ K 0 (own_f0_2 x0 x1 x2 x3 x4 x5)) (own_setJ Sz 0 (own_f3_size x4 (own_f0_3 x0 x1 x2 x3 x4 x5))) (own_set D 0 (nar .boolean (own_f7 (own_f3_delete x4 (own_f0_3 x0 x1 x2 x3 x4 x5))))) 1 (own_f3_size x4 (own_f0_3 x0 x1 x2 x3 x4 x5)) 0 (own_f3_delete x4 (own_f0_3 x0 x1 x2 x3 x4 x5)) (Int32.ofNat t48) (Int32.ofNat ixn33 + (1 : Int32)) iA (own_set S33 t48 (Int32.ofNat (0 + 1))) t51 (own_mem (own_setJ K 0 (own_f0_2 x0 x1 x2 x3 x4 x5)) 1 x1) n0 T48.heap B48 I48 (IVf.1.ok (by decide)) hm51 ht51 hr51) (by decide) (W := 0) (by decide) (by decide) (by decide) (g := (mkF m 165 #[.val (.long x0), .second, .val (.long x1), .second, .val (.long x2), .second, .val (.long x3), .second, .val (.long x4), .second, .val (.int x5), .val (.ref a1), .val (.ref a16), .val (.long (own_f0_2 x0 x1 x2 x3 x4 x5)), .second, .unset] [(.long x1), (.ref a1)])) rfl (by rw [hml]; rfl) (argsL := [(.long x1)]) (rest := []) (lenOf pd_10 rfl) rfl (by show 2 * 0 + _ ≤ _; exact Nat.le_of_eq rfl) (hb hby at_165)
            obtain ⟨e51, X51⟩ := own_clean q51 Y51 rfl rfl
            obtain ⟨rfl, -, -⟩ := q51
            refine own_Goes.step st51 ?_
            show own_Goes _ _ _ _ _ _ _ (T51.setTop (mkF m 168 #[.val (.long x0), .second, .val (.long x1), .second, .val (.long x2), .second, .val (.long x3), .second, .val (.long x4), .second, .val (.int x5), .val (.ref a1), .val (.ref a16), .val (.long (own_f0_2 x0 x1 x2 x3 x4 x5)), .second, .unset] [(.int (own_bi (own_mem (own_setJ K 0 (own_f0_2 x0 x1 x2 x3 x4 x5)) 1 x1)))]))
            refine own_Goes.step (fun tq kq => XT.lloadN X51.here hx rfl (hb hby at_168) rfl kq) ?_
            show own_Goes _ _ _ _ _ _ _ (T51.setTop (mkF m 169 #[.val (.long x0), .second, .val (.long x1), .second, .val (.long x2), .second, .val (.long x3), .second, .val (.long x4), .second, .val (.int x5), .val (.ref a1), .val (.ref a16), .val (.long (own_f0_2 x0 x1 x2 x3 x4 x5)), .second, .unset] [(.long x1), (.int (own_bi (own_mem (own_setJ K 0 (own_f0_2 x0 x1 x2 x3 x4 x5)) 1 x1)))]))
            refine own_Goes.step (fun tq kq => XT.lload X51.here hx rfl (hb hby at_169) rfl kq) ?_
            show own_Goes _ _ _ _ _ _ _ (T51.setTop (mkF m 171 #[.val (.long x0), .second, .val (.long x1), .second, .val (.long x2), .second, .val (.long x3), .second, .val (.long x4), .second, .val (.int x5), .val (.ref a1), .val (.ref a16), .val (.long (own_f0_2 x0 x1 x2 x3 x4 x5)), .second, .unset] [(.long (own_f0_2 x0 x1 x2 x3 x4 x5)), (.long x1), (.int (own_bi (own_mem (own_setJ K 0 (own_f0_2 x0 x1 x2 x3 x4 x5)) 1 x1)))]))
            refine own_Goes.step (fun tq kq => XT.lcmp X51.here hx rfl (hb hby at_171) rfl kq) ?_
            show own_Goes _ _ _ _ _ _ _ (T51.setTop (mkF m 172 #[.val (.long x0), .second, .val (.long x1), .second, .val (.long x2), .second, .val (.long x3), .second, .val (.long x4), .second, .val (.int x5), .val (.ref a1), .val (.ref a16), .val (.long (own_f0_2 x0 x1 x2 x3 x4 x5)), .second, .unset] [(.int (XT.cmpL x1 (own_f0_2 x0 x1 x2 x3 x4 x5))), (.int (own_bi (own_mem (own_setJ K 0 (own_f0_2 x0 x1 x2 x3 x4 x5)) 1 x1)))]))
            have J59 : own_Goes p e below s (own_F0 Z x0 x1 x2 x3 x4 x5 n0 h0) room_1.cells room_1.slots (T51.setTop (mkF m 180 #[.val (.long x0), .second, .val (.long x1), .second, .val (.long x2), .second, .val (.long x3), .second, .val (.long x4), .second, .val (.int x5), .val (.ref a1), .val (.ref a16), .val (.long (own_f0_2 x0 x1 x2 x3 x4 x5)), .second, .unset] [(.int (own_f0_4 x0 x1 x2 x3 x4 x5)), (.int (own_bi (own_mem (own_setJ K 0 (own_f0_2 x0 x1 x2 x3 x4 x5)) 1 x1)))])) := by
              refine own_Goes.step (fun tq kq => XS.icmpYes X51.here hx rfl (pc0 := 180) (pc' := 185) rfl (hb hby at_180) rfl (XT.ii_eq_t (own_k2 _ x0 x1 x2 x3 x4 x5)) (by decide) (by decide) kq) ?_
              show own_Goes _ _ _ _ _ _ _ (T51.setTop (mkF m 185 #[.val (.long x0), .second, .val (.long x1), .second, .val (.long x2), .second, .val (.long x3), .second, .val (.long x4), .second, .val (.int x5), .val (.ref a1), .val (.ref a16), .val (.long (own_f0_2 x0 x1 x2 x3 x4 x5)), .second, .unset] []))
              rcases own_flB x0 x1 x2 x3 x4 x5 with hd | hd
              · have Bv := own_W.am B48 hd
                refine own_Goes.step (fun tq kq => XS.aload X51.here hx rfl (hb hby at_185) rfl rfl kq) ?_
                show own_Goes _ _ _ _ _ _ _ (T51.setTop (mkF m 187 #[.val (.long x0), .second, .val (.long x1), .second, .val (.long x2), .second, .val (.long x3), .second, .val (.long x4), .second, .val (.int x5), .val (.ref a1), .val (.ref a16), .val (.long (own_f0_2 x0 x1 x2 x3 x4 x5)), .second, .unset] [(.ref a1)]))
                obtain ⟨w53, T53, L53, q53, Y53, st53⟩ := own_virt X51 hx hZ e51 (own_W.exa Bv) hown (own_at hw 98 rfl) (own_at hw 99 rfl) (own_at hw 101 rfl) (own_at hw 100 rfl) (own_at hw 2 rfl) (own_at hw 102 rfl) (by decide) (own_m15z l Z a0 hw [] a1 kA sA dA pA (.ref iA) (own_setJ K 0 (own_f0_2 x0 x1 x2 x3 x4 x5)) (own_setJ Sz 0 (own_f3_size x4 (own_f0_3 x0 x1 x2 x3 x4 x5))) (own_set D 0 (nar .boolean (own_f7 (own_f3_delete x4 (own_f0_3 x0 x1 x2 x3 x4 x5))))) (own_f3_size x4 (own_f0_3 x0 x1 x2 x3 x4 x5)) (Int32.ofNat ixn33 + (1 : Int32)) (Int32.ofNat t48) n0 T48.heap Bv) (by decide) (W := 0) (by decide) (by decide) (by decide) (g := (mkF m 187 #[.val (.long x0), .second, .val (.long x1), .second, .val (.long x2), .second, .val (.long x3), .second, .val (.long x4), .second, .val (.int x5), .val (.ref a1), .val (.ref a16), .val (.long (own_f0_2 x0 x1 x2 x3 x4 x5)), .second, .unset] [(.ref a1)])) rfl (by rw [hml]; rfl) (argsL := []) (rest := []) (lenOf pd_15 rfl) rfl (by show 2 * 0 + _ ≤ _; exact Nat.le_of_eq rfl) (hb hby at_187)
                obtain ⟨r53, rk, KB, rfl, N53, Er, Fk, Fs, Rk⟩ := q53
                have Nn53 := Fr.app Nn48 N53
                refine own_Goes.step st53 ?_
                show own_Goes _ _ _ _ _ _ _ (T53.setTop (mkF m 190 #[.val (.long x0), .second, .val (.long x1), .second, .val (.long x2), .second, .val (.long x3), .second, .val (.long x4), .second, .val (.int x5), .val (.ref a1), .val (.ref a16), .val (.long (own_f0_2 x0 x1 x2 x3 x4 x5)), .second, .unset] [(.ref r53)]))
                refine own_Goes.step (fun tq kq => XS.astore Y53.here hx rfl (hb hby at_190) rfl rfl (l' := #[.val (.long x0), .second, .val (.long x1), .second, .val (.long x2), .second, .val (.long x3), .second, .val (.long x4), .second, .val (.int x5), .val (.ref a1), .val (.ref a16), .val (.long (own_f0_2 x0 x1 x2 x3 x4 x5)), .second, .val (.ref r53)]) rfl kq) ?_
                show own_Goes _ _ _ _ _ _ _ (T53.setTop (mkF m 192 #[.val (.long x0), .second, .val (.long x1), .second, .val (.long x2), .second, .val (.long x3), .second, .val (.long x4), .second, .val (.int x5), .val (.ref a1), .val (.ref a16), .val (.long (own_f0_2 x0 x1 x2 x3 x4 x5)), .second, .val (.ref r53)] []))
                refine own_Goes.step (fun tq kq => XS.aload Y53.here hx rfl (hb hby at_192) rfl rfl kq) ?_
                show own_Goes _ _ _ _ _ _ _ (T53.setTop (mkF m 194 #[.val (.long x0), .second, .val (.long x1), .second, .val (.long x2), .second, .val (.long x3), .second, .val (.long x4), .second, .val (.int x5), .val (.ref a1), .val (.ref a16), .val (.long (own_f0_2 x0 x1 x2 x3 x4 x5)), .second, .val (.ref r53)] [(.ref r53)]))
                obtain ⟨w54, T54, L54, q54, Y54, st54⟩ := own_virt Y53 hx hZ rfl Er hown (own_at hw 181 rfl) (own_at hw 182 rfl) (own_at hw 184 rfl) (own_at hw 183 rfl) (own_at hw 124 rfl) (own_at hw 185 rfl) (by decide) (own_m28 l Z a0 hw [] r53 rk KB n0 T53.heap Fk Rk) (by decide) (W := 0) (by decide) (by decide) (by decide) (g := (mkF m 194 #[.val (.long x0), .second, .val (.long x1), .second, .val (.long x2), .second, .val (.long x3), .second, .val (.long x4), .second, .val (.int x5), .val (.ref a1), .val (.ref a16), .val (.long (own_f0_2 x0 x1 x2 x3 x4 x5)), .second, .val (.ref r53)] [(.ref r53)])) rfl (by rw [hml]; rfl) (argsL := []) (rest := []) (lenOf pd_28 rfl) rfl (by show 2 * 0 + _ ≤ _; exact Nat.le_of_eq rfl) (hb hby at_194)
                obtain ⟨e54, X54⟩ := own_clean q54 Y54 rfl rfl
                obtain ⟨rfl, -, -⟩ := q54
                refine own_Goes.step st54 ?_
                show own_Goes _ _ _ _ _ _ _ (T54.setTop (mkF m 197 #[.val (.long x0), .second, .val (.long x1), .second, .val (.long x2), .second, .val (.long x3), .second, .val (.long x4), .second, .val (.int x5), .val (.ref a1), .val (.ref a16), .val (.long (own_f0_2 x0 x1 x2 x3 x4 x5)), .second, .val (.ref r53)] [(.int (1 : Int32))]))
                refine own_Goes.step (fun tq kq => XT.iconstV X54.here hx rfl (1 : Int32) (hb hby at_197) (by decide) kq) ?_
                show own_Goes _ _ _ _ _ _ _ (T54.setTop (mkF m 198 #[.val (.long x0), .second, .val (.long x1), .second, .val (.long x2), .second, .val (.long x3), .second, .val (.long x4), .second, .val (.int x5), .val (.ref a1), .val (.ref a16), .val (.long (own_f0_2 x0 x1 x2 x3 x4 x5)), .second, .val (.ref r53)] [(.int (1 : Int32)), (.int (1 : Int32))]))
                refine own_Goes.step (fun tq kq => XS.icmpNo X54.here hx rfl (hb hby at_198) rfl (XT.ii_ne_f (by decide)) kq) ?_
                show own_Goes _ _ _ _ _ _ _ (T54.setTop (mkF m 201 #[.val (.long x0), .second, .val (.long x1), .second, .val (.long x2), .second, .val (.long x3), .second, .val (.long x4), .second, .val (.int x5), .val (.ref a1), .val (.ref a16), .val (.long (own_f0_2 x0 x1 x2 x3 x4 x5)), .second, .val (.ref r53)] []))
                refine own_Goes.step (fun tq kq => XS.aload X54.here hx rfl (hb hby at_201) rfl rfl kq) ?_
                show own_Goes _ _ _ _ _ _ _ (T54.setTop (mkF m 203 #[.val (.long x0), .second, .val (.long x1), .second, .val (.long x2), .second, .val (.long x3), .second, .val (.long x4), .second, .val (.int x5), .val (.ref a1), .val (.ref a16), .val (.long (own_f0_2 x0 x1 x2 x3 x4 x5)), .second, .val (.ref r53)] [(.ref r53)]))
                obtain ⟨w55, T55, L55, q55, Y55, st55⟩ := own_virt X54 hx hZ e54 Er hown (own_at hw 186 rfl) (own_at hw 187 rfl) (own_at hw 189 rfl) (own_at hw 188 rfl) (own_at hw 124 rfl) (own_at hw 190 rfl) (by decide) (own_m29 l Z a0 hw [] r53 ((own_f3_size x4 (own_f0_3 x0 x1 x2 x3 x4 x5)) * ((1 : Int32).toInt64)) T53.heap Fs ) (by decide) (W := 0) (by decide) (by decide) (by decide) (g := (mkF m 203 #[.val (.long x0), .second, .val (.long x1), .second, .val (.long x2), .second, .val (.long x3), .second, .val (.long x4), .second, .val (.int x5), .val (.ref a1), .val (.ref a16), .val (.long (own_f0_2 x0 x1 x2 x3 x4 x5)), .second, .val (.ref r53)] [(.ref r53)])) rfl (by rw [hml]; rfl) (argsL := []) (rest := []) (lenOf pd_29 rfl) rfl (by show 2 * 0 + _ ≤ _; exact Nat.le_of_eq rfl) (hb hby at_203)
                obtain ⟨e55, X55⟩ := own_clean q55 Y55 rfl rfl
                obtain ⟨rfl, -, -⟩ := q55
                refine own_Goes.step st55 ?_
                show own_Goes _ _ _ _ _ _ _ (T55.setTop (mkF m 206 #[.val (.long x0), .second, .val (.long x1), .second, .val (.long x2), .second, .val (.long x3), .second, .val (.long x4), .second, .val (.int x5), .val (.ref a1), .val (.ref a16), .val (.long (own_f0_2 x0 x1 x2 x3 x4 x5)), .second, .val (.ref r53)] [(.long (own_f29 ((own_f3_size x4 (own_f0_3 x0 x1 x2 x3 x4 x5)) * ((1 : Int32).toInt64))))]))
                refine own_Goes.step (fun tq kq => XT.lload X55.here hx rfl (hb hby at_206) rfl kq) ?_
                show own_Goes _ _ _ _ _ _ _ (T55.setTop (mkF m 208 #[.val (.long x0), .second, .val (.long x1), .second, .val (.long x2), .second, .val (.long x3), .second, .val (.long x4), .second, .val (.int x5), .val (.ref a1), .val (.ref a16), .val (.long (own_f0_2 x0 x1 x2 x3 x4 x5)), .second, .val (.ref r53)] [(.long x4), (.long (own_f29 ((own_f3_size x4 (own_f0_3 x0 x1 x2 x3 x4 x5)) * ((1 : Int32).toInt64))))]))
                refine own_Goes.step (fun tq kq => XT.lcmp X55.here hx rfl (hb hby at_208) rfl kq) ?_
                show own_Goes _ _ _ _ _ _ _ (T55.setTop (mkF m 209 #[.val (.long x0), .second, .val (.long x1), .second, .val (.long x2), .second, .val (.long x3), .second, .val (.long x4), .second, .val (.int x5), .val (.ref a1), .val (.ref a16), .val (.long (own_f0_2 x0 x1 x2 x3 x4 x5)), .second, .val (.ref r53)] [(.int (XT.cmpL (own_f29 ((own_f3_size x4 (own_f0_3 x0 x1 x2 x3 x4 x5)) * ((1 : Int32).toInt64))) x4))]))
                refine own_Goes.step (fun tq kq => XS.ifNo X55.here hx rfl (hb hby at_209) rfl (XT.ll_ne_f (own_szl _)) kq) ?_
                show own_Goes _ _ _ _ _ _ _ (T55.setTop (mkF m 212 #[.val (.long x0), .second, .val (.long x1), .second, .val (.long x2), .second, .val (.long x3), .second, .val (.long x4), .second, .val (.int x5), .val (.ref a1), .val (.ref a16), .val (.long (own_f0_2 x0 x1 x2 x3 x4 x5)), .second, .val (.ref r53)] []))
                refine own_Goes.step (fun tq kq => XT.iconstV X55.here hx rfl (1 : Int32) (hb hby at_212) (by decide) kq) ?_
                show own_Goes _ _ _ _ _ _ _ (T55.setTop (mkF m 213 #[.val (.long x0), .second, .val (.long x1), .second, .val (.long x2), .second, .val (.long x3), .second, .val (.long x4), .second, .val (.int x5), .val (.ref a1), .val (.ref a16), .val (.long (own_f0_2 x0 x1 x2 x3 x4 x5)), .second, .val (.ref r53)] [(.int (1 : Int32))]))
                refine own_Goes.step (fun tq kq => XS.goto X55.here hx rfl (pc0 := 213) (pc' := 217) rfl (hb hby at_213) (by decide) (by decide) kq) ?_
                show own_Goes _ _ _ _ _ _ _ (T55.setTop (mkF m 217 #[.val (.long x0), .second, .val (.long x1), .second, .val (.long x2), .second, .val (.long x3), .second, .val (.long x4), .second, .val (.int x5), .val (.ref a1), .val (.ref a16), .val (.long (own_f0_2 x0 x1 x2 x3 x4 x5)), .second, .val (.ref r53)] [(.int (1 : Int32))]))
                exact own_endN X55 hx Bd.notSynchronized (t := .boolean) Bd.returns (by simp) (hb hby at_217) ⟨rfl, Nn53⟩ (by decide) (by decide)
              · have Bv := own_W.am B48 hd
                refine own_Goes.step (fun tq kq => XS.aload X51.here hx rfl (hb hby at_185) rfl rfl kq) ?_
                show own_Goes _ _ _ _ _ _ _ (T51.setTop (mkF m 187 #[.val (.long x0), .second, .val (.long x1), .second, .val (.long x2), .second, .val (.long x3), .second, .val (.long x4), .second, .val (.int x5), .val (.ref a1), .val (.ref a16), .val (.long (own_f0_2 x0 x1 x2 x3 x4 x5)), .second, .unset] [(.ref a1)]))
                obtain ⟨w56, T56, L56, q56, Y56, st56⟩ := own_virt X51 hx hZ e51 (own_W.exa Bv) hown (own_at hw 98 rfl) (own_at hw 99 rfl) (own_at hw 101 rfl) (own_at hw 100 rfl) (own_at hw 2 rfl) (own_at hw 102 rfl) (by decide) (own_m15o l Z a0 hw [] a1 kA sA dA pA (.ref iA) (own_setJ K 0 (own_f0_2 x0 x1 x2 x3 x4 x5)) (own_setJ Sz 0 (own_f3_size x4 (own_f0_3 x0 x1 x2 x3 x4 x5))) (own_set D 0 (nar .boolean (own_f7 (own_f3_delete x4 (own_f0_3 x0 x1 x2 x3 x4 x5))))) (own_f3_size x4 (own_f0_3 x0 x1 x2 x3 x4 x5)) (Int32.ofNat ixn33 + (1 : Int32)) (Int32.ofNat t48) n0 T48.heap Bv) (by decide) (W := 0) (by decide) (by decide) (by decide) (g := (mkF m 187 #[.val (.long x0), .second, .val (.long x1), .second, .val (.long x2), .second, .val (.long x3), .second, .val (.long x4), .second, .val (.int x5), .val (.ref a1), .val (.ref a16), .val (.long (own_f0_2 x0 x1 x2 x3 x4 x5)), .second, .unset] [(.ref a1)])) rfl (by rw [hml]; rfl) (argsL := []) (rest := []) (lenOf pd_15 rfl) rfl (by show 2 * 0 + _ ≤ _; exact Nat.le_of_eq rfl) (hb hby at_187)
                obtain ⟨r56, rk, KB, rfl, N56, Er, Fk, Fs, Rk⟩ := q56
                have Nn56 := Fr.app Nn48 N56
                refine own_Goes.step st56 ?_
                show own_Goes _ _ _ _ _ _ _ (T56.setTop (mkF m 190 #[.val (.long x0), .second, .val (.long x1), .second, .val (.long x2), .second, .val (.long x3), .second, .val (.long x4), .second, .val (.int x5), .val (.ref a1), .val (.ref a16), .val (.long (own_f0_2 x0 x1 x2 x3 x4 x5)), .second, .unset] [(.ref r56)]))
                refine own_Goes.step (fun tq kq => XS.astore Y56.here hx rfl (hb hby at_190) rfl rfl (l' := #[.val (.long x0), .second, .val (.long x1), .second, .val (.long x2), .second, .val (.long x3), .second, .val (.long x4), .second, .val (.int x5), .val (.ref a1), .val (.ref a16), .val (.long (own_f0_2 x0 x1 x2 x3 x4 x5)), .second, .val (.ref r56)]) rfl kq) ?_
                show own_Goes _ _ _ _ _ _ _ (T56.setTop (mkF m 192 #[.val (.long x0), .second, .val (.long x1), .second, .val (.long x2), .second, .val (.long x3), .second, .val (.long x4), .second, .val (.int x5), .val (.ref a1), .val (.ref a16), .val (.long (own_f0_2 x0 x1 x2 x3 x4 x5)), .second, .val (.ref r56)] []))
                refine own_Goes.step (fun tq kq => XS.aload Y56.here hx rfl (hb hby at_192) rfl rfl kq) ?_
                show own_Goes _ _ _ _ _ _ _ (T56.setTop (mkF m 194 #[.val (.long x0), .second, .val (.long x1), .second, .val (.long x2), .second, .val (.long x3), .second, .val (.long x4), .second, .val (.int x5), .val (.ref a1), .val (.ref a16), .val (.long (own_f0_2 x0 x1 x2 x3 x4 x5)), .second, .val (.ref r56)] [(.ref r56)]))
                obtain ⟨w57, T57, L57, q57, Y57, st57⟩ := own_virt Y56 hx hZ rfl Er hown (own_at hw 181 rfl) (own_at hw 182 rfl) (own_at hw 184 rfl) (own_at hw 183 rfl) (own_at hw 124 rfl) (own_at hw 185 rfl) (by decide) (own_m28 l Z a0 hw [] r56 rk KB n0 T56.heap Fk Rk) (by decide) (W := 0) (by decide) (by decide) (by decide) (g := (mkF m 194 #[.val (.long x0), .second, .val (.long x1), .second, .val (.long x2), .second, .val (.long x3), .second, .val (.long x4), .second, .val (.int x5), .val (.ref a1), .val (.ref a16), .val (.long (own_f0_2 x0 x1 x2 x3 x4 x5)), .second, .val (.ref r56)] [(.ref r56)])) rfl (by rw [hml]; rfl) (argsL := []) (rest := []) (lenOf pd_28 rfl) rfl (by show 2 * 0 + _ ≤ _; exact Nat.le_of_eq rfl) (hb hby at_194)
                obtain ⟨e57, X57⟩ := own_clean q57 Y57 rfl rfl
                obtain ⟨rfl, -, -⟩ := q57
                refine own_Goes.step st57 ?_
                show own_Goes _ _ _ _ _ _ _ (T57.setTop (mkF m 197 #[.val (.long x0), .second, .val (.long x1), .second, .val (.long x2), .second, .val (.long x3), .second, .val (.long x4), .second, .val (.int x5), .val (.ref a1), .val (.ref a16), .val (.long (own_f0_2 x0 x1 x2 x3 x4 x5)), .second, .val (.ref r56)] [(.int (1 : Int32))]))
                refine own_Goes.step (fun tq kq => XT.iconstV X57.here hx rfl (1 : Int32) (hb hby at_197) (by decide) kq) ?_
                show own_Goes _ _ _ _ _ _ _ (T57.setTop (mkF m 198 #[.val (.long x0), .second, .val (.long x1), .second, .val (.long x2), .second, .val (.long x3), .second, .val (.long x4), .second, .val (.int x5), .val (.ref a1), .val (.ref a16), .val (.long (own_f0_2 x0 x1 x2 x3 x4 x5)), .second, .val (.ref r56)] [(.int (1 : Int32)), (.int (1 : Int32))]))
                refine own_Goes.step (fun tq kq => XS.icmpNo X57.here hx rfl (hb hby at_198) rfl (XT.ii_ne_f (by decide)) kq) ?_
                show own_Goes _ _ _ _ _ _ _ (T57.setTop (mkF m 201 #[.val (.long x0), .second, .val (.long x1), .second, .val (.long x2), .second, .val (.long x3), .second, .val (.long x4), .second, .val (.int x5), .val (.ref a1), .val (.ref a16), .val (.long (own_f0_2 x0 x1 x2 x3 x4 x5)), .second, .val (.ref r56)] []))
                refine own_Goes.step (fun tq kq => XS.aload X57.here hx rfl (hb hby at_201) rfl rfl kq) ?_
                show own_Goes _ _ _ _ _ _ _ (T57.setTop (mkF m 203 #[.val (.long x0), .second, .val (.long x1), .second, .val (.long x2), .second, .val (.long x3), .second, .val (.long x4), .second, .val (.int x5), .val (.ref a1), .val (.ref a16), .val (.long (own_f0_2 x0 x1 x2 x3 x4 x5)), .second, .val (.ref r56)] [(.ref r56)]))
                obtain ⟨w58, T58, L58, q58, Y58, st58⟩ := own_virt X57 hx hZ e57 Er hown (own_at hw 186 rfl) (own_at hw 187 rfl) (own_at hw 189 rfl) (own_at hw 188 rfl) (own_at hw 124 rfl) (own_at hw 190 rfl) (by decide) (own_m29 l Z a0 hw [] r56 ((own_f3_size x4 (own_f0_3 x0 x1 x2 x3 x4 x5)) * ((1 : Int32).toInt64)) T56.heap Fs ) (by decide) (W := 0) (by decide) (by decide) (by decide) (g := (mkF m 203 #[.val (.long x0), .second, .val (.long x1), .second, .val (.long x2), .second, .val (.long x3), .second, .val (.long x4), .second, .val (.int x5), .val (.ref a1), .val (.ref a16), .val (.long (own_f0_2 x0 x1 x2 x3 x4 x5)), .second, .val (.ref r56)] [(.ref r56)])) rfl (by rw [hml]; rfl) (argsL := []) (rest := []) (lenOf pd_29 rfl) rfl (by show 2 * 0 + _ ≤ _; exact Nat.le_of_eq rfl) (hb hby at_203)
                obtain ⟨e58, X58⟩ := own_clean q58 Y58 rfl rfl
                obtain ⟨rfl, -, -⟩ := q58
                refine own_Goes.step st58 ?_
                show own_Goes _ _ _ _ _ _ _ (T58.setTop (mkF m 206 #[.val (.long x0), .second, .val (.long x1), .second, .val (.long x2), .second, .val (.long x3), .second, .val (.long x4), .second, .val (.int x5), .val (.ref a1), .val (.ref a16), .val (.long (own_f0_2 x0 x1 x2 x3 x4 x5)), .second, .val (.ref r56)] [(.long (own_f29 ((own_f3_size x4 (own_f0_3 x0 x1 x2 x3 x4 x5)) * ((1 : Int32).toInt64))))]))
                refine own_Goes.step (fun tq kq => XT.lload X58.here hx rfl (hb hby at_206) rfl kq) ?_
                show own_Goes _ _ _ _ _ _ _ (T58.setTop (mkF m 208 #[.val (.long x0), .second, .val (.long x1), .second, .val (.long x2), .second, .val (.long x3), .second, .val (.long x4), .second, .val (.int x5), .val (.ref a1), .val (.ref a16), .val (.long (own_f0_2 x0 x1 x2 x3 x4 x5)), .second, .val (.ref r56)] [(.long x4), (.long (own_f29 ((own_f3_size x4 (own_f0_3 x0 x1 x2 x3 x4 x5)) * ((1 : Int32).toInt64))))]))
                refine own_Goes.step (fun tq kq => XT.lcmp X58.here hx rfl (hb hby at_208) rfl kq) ?_
                show own_Goes _ _ _ _ _ _ _ (T58.setTop (mkF m 209 #[.val (.long x0), .second, .val (.long x1), .second, .val (.long x2), .second, .val (.long x3), .second, .val (.long x4), .second, .val (.int x5), .val (.ref a1), .val (.ref a16), .val (.long (own_f0_2 x0 x1 x2 x3 x4 x5)), .second, .val (.ref r56)] [(.int (XT.cmpL (own_f29 ((own_f3_size x4 (own_f0_3 x0 x1 x2 x3 x4 x5)) * ((1 : Int32).toInt64))) x4))]))
                refine own_Goes.step (fun tq kq => XS.ifNo X58.here hx rfl (hb hby at_209) rfl (XT.ll_ne_f (own_szl _)) kq) ?_
                show own_Goes _ _ _ _ _ _ _ (T58.setTop (mkF m 212 #[.val (.long x0), .second, .val (.long x1), .second, .val (.long x2), .second, .val (.long x3), .second, .val (.long x4), .second, .val (.int x5), .val (.ref a1), .val (.ref a16), .val (.long (own_f0_2 x0 x1 x2 x3 x4 x5)), .second, .val (.ref r56)] []))
                refine own_Goes.step (fun tq kq => XT.iconstV X58.here hx rfl (1 : Int32) (hb hby at_212) (by decide) kq) ?_
                show own_Goes _ _ _ _ _ _ _ (T58.setTop (mkF m 213 #[.val (.long x0), .second, .val (.long x1), .second, .val (.long x2), .second, .val (.long x3), .second, .val (.long x4), .second, .val (.int x5), .val (.ref a1), .val (.ref a16), .val (.long (own_f0_2 x0 x1 x2 x3 x4 x5)), .second, .val (.ref r56)] [(.int (1 : Int32))]))
                refine own_Goes.step (fun tq kq => XS.goto X58.here hx rfl (pc0 := 213) (pc' := 217) rfl (hb hby at_213) (by decide) (by decide) kq) ?_
                show own_Goes _ _ _ _ _ _ _ (T58.setTop (mkF m 217 #[.val (.long x0), .second, .val (.long x1), .second, .val (.long x2), .second, .val (.long x3), .second, .val (.long x4), .second, .val (.int x5), .val (.ref a1), .val (.ref a16), .val (.long (own_f0_2 x0 x1 x2 x3 x4 x5)), .second, .val (.ref r56)] [(.int (1 : Int32))]))
                exact own_endN X58 hx Bd.notSynchronized (t := .boolean) Bd.returns (by simp) (hb hby at_217) ⟨rfl, Nn56⟩ (by decide) (by decide)
            by_cases hc52 : x1 = (own_f0_2 x0 x1 x2 x3 x4 x5)
            · refine own_Goes.step (fun tq kq => XS.ifNo X51.here hx rfl (hb hby at_172) rfl (XT.ll_ne_f hc52) kq) ?_
              show own_Goes _ _ _ _ _ _ _ (T51.setTop (mkF m 175 #[.val (.long x0), .second, .val (.long x1), .second, .val (.long x2), .second, .val (.long x3), .second, .val (.long x4), .second, .val (.int x5), .val (.ref a1), .val (.ref a16), .val (.long (own_f0_2 x0 x1 x2 x3 x4 x5)), .second, .unset] [(.int (own_bi (own_mem (own_setJ K 0 (own_f0_2 x0 x1 x2 x3 x4 x5)) 1 x1)))]))
              refine own_Goes.step (fun tq kq => XT.iconstV X51.here hx rfl (1 : Int32) (hb hby at_175) (by decide) kq) ?_
              show own_Goes _ _ _ _ _ _ _ (T51.setTop (mkF m 176 #[.val (.long x0), .second, .val (.long x1), .second, .val (.long x2), .second, .val (.long x3), .second, .val (.long x4), .second, .val (.int x5), .val (.ref a1), .val (.ref a16), .val (.long (own_f0_2 x0 x1 x2 x3 x4 x5)), .second, .unset] [(.int (1 : Int32)), (.int (own_bi (own_mem (own_setJ K 0 (own_f0_2 x0 x1 x2 x3 x4 x5)) 1 x1)))]))
              refine own_Goes.step (fun tq kq => XS.goto X51.here hx rfl (pc0 := 176) (pc' := 180) rfl (hb hby at_176) (by decide) (by decide) kq) ?_
              show own_Goes _ _ _ _ _ _ _ (T51.setTop (mkF m 180 #[.val (.long x0), .second, .val (.long x1), .second, .val (.long x2), .second, .val (.long x3), .second, .val (.long x4), .second, .val (.int x5), .val (.ref a1), .val (.ref a16), .val (.long (own_f0_2 x0 x1 x2 x3 x4 x5)), .second, .unset] [(.int (1 : Int32)), (.int (own_bi (own_mem (own_setJ K 0 (own_f0_2 x0 x1 x2 x3 x4 x5)) 1 x1)))]))
              rw [show (own_f0_4 x0 x1 x2 x3 x4 x5) = (1 : Int32) from by simp only [own_f0_4, if_pos hc52]] at J59
              exact J59
            · refine own_Goes.step (fun tq kq => XS.ifYes X51.here hx rfl (pc0 := 172) (pc' := 179) rfl (hb hby at_172) rfl (XT.ll_ne_t hc52) (by decide) (by decide) kq) ?_
              show own_Goes _ _ _ _ _ _ _ (T51.setTop (mkF m 179 #[.val (.long x0), .second, .val (.long x1), .second, .val (.long x2), .second, .val (.long x3), .second, .val (.long x4), .second, .val (.int x5), .val (.ref a1), .val (.ref a16), .val (.long (own_f0_2 x0 x1 x2 x3 x4 x5)), .second, .unset] [(.int (own_bi (own_mem (own_setJ K 0 (own_f0_2 x0 x1 x2 x3 x4 x5)) 1 x1)))]))
              refine own_Goes.step (fun tq kq => XT.iconstV X51.here hx rfl (0 : Int32) (hb hby at_179) (by decide) kq) ?_
              show own_Goes _ _ _ _ _ _ _ (T51.setTop (mkF m 180 #[.val (.long x0), .second, .val (.long x1), .second, .val (.long x2), .second, .val (.long x3), .second, .val (.long x4), .second, .val (.int x5), .val (.ref a1), .val (.ref a16), .val (.long (own_f0_2 x0 x1 x2 x3 x4 x5)), .second, .unset] [(.int (0 : Int32)), (.int (own_bi (own_mem (own_setJ K 0 (own_f0_2 x0 x1 x2 x3 x4 x5)) 1 x1)))]))
              rw [show (own_f0_4 x0 x1 x2 x3 x4 x5) = (0 : Int32) from by simp only [own_f0_4, if_neg hc52]] at J59
              exact J59
          by_cases hc40 : (x5 &&& (16 : Int32)) = (0 : Int32)
          · refine own_Goes.step (fun tq kq => XS.ifYes X36.here hx rfl (pc0 := 126) (pc' := 133) rfl (hb hby at_126) rfl (XT.i0_eq_t hc40) (by decide) (by decide) kq) ?_
            show own_Goes _ _ _ _ _ _ _ (T36.setTop (mkF m 133 #[.val (.long x0), .second, .val (.long x1), .second, .val (.long x2), .second, .val (.long x3), .second, .val (.long x4), .second, .val (.int x5), .val (.ref a1), .val (.ref a16), .val (.long (own_f0_2 x0 x1 x2 x3 x4 x5)), .second, .unset] [(.long x4), (.ref a36), (.ref a36), (.long (own_f0_2 x0 x1 x2 x3 x4 x5)), (.ref a1)]))
            refine own_Goes.step (fun tq kq => XT.iconstV X36.here hx rfl (0 : Int32) (hb hby at_133) (by decide) kq) ?_
            show own_Goes _ _ _ _ _ _ _ (T36.setTop (mkF m 134 #[.val (.long x0), .second, .val (.long x1), .second, .val (.long x2), .second, .val (.long x3), .second, .val (.long x4), .second, .val (.int x5), .val (.ref a1), .val (.ref a16), .val (.long (own_f0_2 x0 x1 x2 x3 x4 x5)), .second, .unset] [(.int (0 : Int32)), (.long x4), (.ref a36), (.ref a36), (.long (own_f0_2 x0 x1 x2 x3 x4 x5)), (.ref a1)]))
            rw [show (own_f0_3 x0 x1 x2 x3 x4 x5) = (0 : Int32) from by simp only [own_f0_3, if_pos hc40]] at J60
            exact J60
          · refine own_Goes.step (fun tq kq => XS.ifNo X36.here hx rfl (hb hby at_126) rfl (XT.i0_eq_f hc40) kq) ?_
            show own_Goes _ _ _ _ _ _ _ (T36.setTop (mkF m 129 #[.val (.long x0), .second, .val (.long x1), .second, .val (.long x2), .second, .val (.long x3), .second, .val (.long x4), .second, .val (.int x5), .val (.ref a1), .val (.ref a16), .val (.long (own_f0_2 x0 x1 x2 x3 x4 x5)), .second, .unset] [(.long x4), (.ref a36), (.ref a36), (.long (own_f0_2 x0 x1 x2 x3 x4 x5)), (.ref a1)]))
            refine own_Goes.step (fun tq kq => XT.iconstV X36.here hx rfl (1 : Int32) (hb hby at_129) (by decide) kq) ?_
            show own_Goes _ _ _ _ _ _ _ (T36.setTop (mkF m 130 #[.val (.long x0), .second, .val (.long x1), .second, .val (.long x2), .second, .val (.long x3), .second, .val (.long x4), .second, .val (.int x5), .val (.ref a1), .val (.ref a16), .val (.long (own_f0_2 x0 x1 x2 x3 x4 x5)), .second, .unset] [(.int (1 : Int32)), (.long x4), (.ref a36), (.ref a36), (.long (own_f0_2 x0 x1 x2 x3 x4 x5)), (.ref a1)]))
            refine own_Goes.step (fun tq kq => XS.goto X36.here hx rfl (pc0 := 130) (pc' := 134) rfl (hb hby at_130) (by decide) (by decide) kq) ?_
            show own_Goes _ _ _ _ _ _ _ (T36.setTop (mkF m 134 #[.val (.long x0), .second, .val (.long x1), .second, .val (.long x2), .second, .val (.long x3), .second, .val (.long x4), .second, .val (.int x5), .val (.ref a1), .val (.ref a16), .val (.long (own_f0_2 x0 x1 x2 x3 x4 x5)), .second, .unset] [(.int (1 : Int32)), (.long x4), (.ref a36), (.ref a36), (.long (own_f0_2 x0 x1 x2 x3 x4 x5)), (.ref a1)]))
            rw [show (own_f0_3 x0 x1 x2 x3 x4 x5) = (1 : Int32) from by simp only [own_f0_3, if_neg hc40]] at J60
            exact J60
        by_cases hc34 : (x5 &&& (8 : Int32)) = (0 : Int32)
        · refine own_Goes.step (fun tq kq => XS.ifYes Y33.here hx rfl (pc0 := 100) (pc' := 107) rfl (hb hby at_100) rfl (XT.i0_eq_t hc34) (by decide) (by decide) kq) ?_
          show own_Goes _ _ _ _ _ _ _ (T33.setTop (mkF m 107 #[.val (.long x0), .second, .val (.long x1), .second, .val (.long x2), .second, .val (.long x3), .second, .val (.long x4), .second, .val (.int x5), .val (.ref a1), .val (.ref a16), .unset, .unset, .unset] []))
          refine own_Goes.step (fun tq kq => XT.lload Y33.here hx rfl (hb hby at_107) rfl kq) ?_
          show own_Goes _ _ _ _ _ _ _ (T33.setTop (mkF m 109 #[.val (.long x0), .second, .val (.long x1), .second, .val (.long x2), .second, .val (.long x3), .second, .val (.long x4), .second, .val (.int x5), .val (.ref a1), .val (.ref a16), .unset, .unset, .unset] [(.long x2)]))
          rw [show (own_f0_2 x0 x1 x2 x3 x4 x5) = x2 from by simp only [own_f0_2, if_pos hc34]] at J61
          exact J61
        · refine own_Goes.step (fun tq kq => XS.ifNo Y33.here hx rfl (hb hby at_100) rfl (XT.i0_eq_f hc34) kq) ?_
          show own_Goes _ _ _ _ _ _ _ (T33.setTop (mkF m 103 #[.val (.long x0), .second, .val (.long x1), .second, .val (.long x2), .second, .val (.long x3), .second, .val (.long x4), .second, .val (.int x5), .val (.ref a1), .val (.ref a16), .unset, .unset, .unset] []))
          refine own_Goes.step (fun tq kq => XT.lloadN Y33.here hx rfl (hb hby at_103) rfl kq) ?_
          show own_Goes _ _ _ _ _ _ _ (T33.setTop (mkF m 104 #[.val (.long x0), .second, .val (.long x1), .second, .val (.long x2), .second, .val (.long x3), .second, .val (.long x4), .second, .val (.int x5), .val (.ref a1), .val (.ref a16), .unset, .unset, .unset] [(.long x0)]))
          refine own_Goes.step (fun tq kq => XS.goto Y33.here hx rfl (pc0 := 104) (pc' := 109) rfl (hb hby at_104) (by decide) (by decide) kq) ?_
          show own_Goes _ _ _ _ _ _ _ (T33.setTop (mkF m 109 #[.val (.long x0), .second, .val (.long x1), .second, .val (.long x2), .second, .val (.long x3), .second, .val (.long x4), .second, .val (.int x5), .val (.ref a1), .val (.ref a16), .unset, .unset, .unset] [(.long x0)]))
          rw [show (own_f0_2 x0 x1 x2 x3 x4 x5) = x0 from by simp only [own_f0_2, if_neg hc34]] at J61
          exact J61
      refine own_Goes.step (fun tq kq => XS.iload Y28.here hx rfl (hb hby at_40) rfl kq) ?_
      show own_Goes _ _ _ _ _ _ _ (T28.setTop (mkF m 42 #[.val (.long x0), .second, .val (.long x1), .second, .val (.long x2), .second, .val (.long x3), .second, .val (.long x4), .second, .val (.int x5), .val (.ref a1), .val (.ref a16), .unset, .unset, .unset] [(.int x5)]))
      refine own_Goes.step (fun tq kq => XT.iconstV Y28.here hx rfl (2 : Int32) (hb hby at_42) (by decide) kq) ?_
      show own_Goes _ _ _ _ _ _ _ (T28.setTop (mkF m 43 #[.val (.long x0), .second, .val (.long x1), .second, .val (.long x2), .second, .val (.long x3), .second, .val (.long x4), .second, .val (.int x5), .val (.ref a1), .val (.ref a16), .unset, .unset, .unset] [(.int (2 : Int32)), (.int x5)]))
      refine own_Goes.step (fun tq kq => XS.iand Y28.here hx rfl (hb hby at_43) rfl kq) ?_
      show own_Goes _ _ _ _ _ _ _ (T28.setTop (mkF m 44 #[.val (.long x0), .second, .val (.long x1), .second, .val (.long x2), .second, .val (.long x3), .second, .val (.long x4), .second, .val (.int x5), .val (.ref a1), .val (.ref a16), .unset, .unset, .unset] [(.int (x5 &&& (2 : Int32)))]))
      by_cases hc62 : (x5 &&& (2 : Int32)) = (0 : Int32)
      · refine own_Goes.step (fun tq kq => XS.ifYes Y28.here hx rfl (pc0 := 44) (pc' := 55) rfl (hb hby at_44) rfl (XT.i0_eq_t hc62) (by decide) (by decide) kq) ?_
        show own_Goes _ _ _ _ _ _ _ (T28.setTop (mkF m 55 #[.val (.long x0), .second, .val (.long x1), .second, .val (.long x2), .second, .val (.long x3), .second, .val (.long x4), .second, .val (.int x5), .val (.ref a1), .val (.ref a16), .unset, .unset, .unset] []))
        refine own_Goes.step (fun tq kq => XS.iload Y28.here hx rfl (hb hby at_55) rfl kq) ?_
        show own_Goes _ _ _ _ _ _ _ (T28.setTop (mkF m 57 #[.val (.long x0), .second, .val (.long x1), .second, .val (.long x2), .second, .val (.long x3), .second, .val (.long x4), .second, .val (.int x5), .val (.ref a1), .val (.ref a16), .unset, .unset, .unset] [(.int x5)]))
        refine own_Goes.step (fun tq kq => XT.iconstV Y28.here hx rfl (4 : Int32) (hb hby at_57) (by decide) kq) ?_
        show own_Goes _ _ _ _ _ _ _ (T28.setTop (mkF m 58 #[.val (.long x0), .second, .val (.long x1), .second, .val (.long x2), .second, .val (.long x3), .second, .val (.long x4), .second, .val (.int x5), .val (.ref a1), .val (.ref a16), .unset, .unset, .unset] [(.int (4 : Int32)), (.int x5)]))
        refine own_Goes.step (fun tq kq => XS.iand Y28.here hx rfl (hb hby at_58) rfl kq) ?_
        show own_Goes _ _ _ _ _ _ _ (T28.setTop (mkF m 59 #[.val (.long x0), .second, .val (.long x1), .second, .val (.long x2), .second, .val (.long x3), .second, .val (.long x4), .second, .val (.int x5), .val (.ref a1), .val (.ref a16), .unset, .unset, .unset] [(.int (x5 &&& (4 : Int32)))]))
        by_cases hc63 : (x5 &&& (4 : Int32)) = (0 : Int32)
        · refine own_Goes.step (fun tq kq => XS.ifYes Y28.here hx rfl (pc0 := 59) (pc' := 69) rfl (hb hby at_59) rfl (XT.i0_eq_t hc63) (by decide) (by decide) kq) ?_
          show own_Goes _ _ _ _ _ _ _ (T28.setTop (mkF m 69 #[.val (.long x0), .second, .val (.long x1), .second, .val (.long x2), .second, .val (.long x3), .second, .val (.long x4), .second, .val (.int x5), .val (.ref a1), .val (.ref a16), .unset, .unset, .unset] []))
          refine own_Goes.step (fun tq kq => XS.aload Y28.here hx rfl (hb hby at_69) rfl rfl kq) ?_
          show own_Goes _ _ _ _ _ _ _ (T28.setTop (mkF m 71 #[.val (.long x0), .second, .val (.long x1), .second, .val (.long x2), .second, .val (.long x3), .second, .val (.long x4), .second, .val (.int x5), .val (.ref a1), .val (.ref a16), .unset, .unset, .unset] [(.ref a1)]))
          obtain ⟨w64, T64, L64, q64, Y64, st64⟩ := own_virt Y28 hx hZ rfl (own_W.exa B28) hown (own_at hw 63 rfl) (own_at hw 64 rfl) (own_at hw 66 rfl) (own_at hw 65 rfl) (own_at hw 2 rfl) (own_at hw 67 rfl) (by decide) (own_m8 l Z a0 hw [] a1 kA sA dA pA (own_setJ (fun _ => 0) 0 x0) (own_setJ (fun _ => 0) 0 (own_f3_size x3 (own_f0_1 x0 x1 x2 x3 x4 x5))) (own_set (fun _ => 0) 0 (nar .boolean (own_f7 (own_f3_delete x3 (own_f0_1 x0 x1 x2 x3 x4 x5))))) 1 fs28 mx28 am28 (-1 : Int32) 0 .null n0 T28.heap B28) (by decide) (W := 0) (by decide) (by decide) (by decide) (g := (mkF m 71 #[.val (.long x0), .second, .val (.long x1), .second, .val (.long x2), .second, .val (.long x3), .second, .val (.long x4), .second, .val (.int x5), .val (.ref a1), .val (.ref a16), .unset, .unset, .unset] [(.ref a1)])) rfl (by rw [hml]; rfl) (argsL := []) (rest := []) (lenOf pd_8 rfl) rfl (by show 2 * 0 + _ ≤ _; exact Nat.le_of_eq rfl) (hb hby at_71)
          obtain ⟨rfl, N64, K64, B64⟩ := q64
          have Nn64 := Fr.app Nn28 N64
          refine own_Goes.step st64 ?_
          show own_Goes _ _ _ _ _ _ _ (T64.setTop (mkF m 74 #[.val (.long x0), .second, .val (.long x1), .second, .val (.long x2), .second, .val (.long x3), .second, .val (.long x4), .second, .val (.int x5), .val (.ref a1), .val (.ref a16), .unset, .unset, .unset] []))
          exact JC T64 _ _ (own_more Y64 (by decide) (by decide)) rfl Nn64 _ _ _ _ _ _ _ B64
        · refine own_Goes.step (fun tq kq => XS.ifNo Y28.here hx rfl (hb hby at_59) rfl (XT.i0_eq_f hc63) kq) ?_
          show own_Goes _ _ _ _ _ _ _ (T28.setTop (mkF m 62 #[.val (.long x0), .second, .val (.long x1), .second, .val (.long x2), .second, .val (.long x3), .second, .val (.long x4), .second, .val (.int x5), .val (.ref a1), .val (.ref a16), .unset, .unset, .unset] []))
          refine own_Goes.step (fun tq kq => XS.aload Y28.here hx rfl (hb hby at_62) rfl rfl kq) ?_
          show own_Goes _ _ _ _ _ _ _ (T28.setTop (mkF m 64 #[.val (.long x0), .second, .val (.long x1), .second, .val (.long x2), .second, .val (.long x3), .second, .val (.long x4), .second, .val (.int x5), .val (.ref a1), .val (.ref a16), .unset, .unset, .unset] [(.ref a1)]))
          refine own_Goes.step (fun tq kq => XT.lloadN Y28.here hx rfl (hb hby at_64) rfl kq) ?_
          show own_Goes _ _ _ _ _ _ _ (T28.setTop (mkF m 65 #[.val (.long x0), .second, .val (.long x1), .second, .val (.long x2), .second, .val (.long x3), .second, .val (.long x4), .second, .val (.int x5), .val (.ref a1), .val (.ref a16), .unset, .unset, .unset] [(.long x0), (.ref a1)]))
          obtain ⟨w65, T65, L65, q65, Y65, st65⟩ := own_virt Y28 hx hZ rfl (own_W.exa B28) hown (own_at hw 75 rfl) (own_at hw 76 rfl) (own_at hw 78 rfl) (own_at hw 77 rfl) (own_at hw 2 rfl) (own_at hw 79 rfl) (by decide) (own_m10n l Z a0 hw [] a1 x0 kA sA dA pA (own_setJ (fun _ => 0) 0 x0) (own_setJ (fun _ => 0) 0 (own_f3_size x3 (own_f0_1 x0 x1 x2 x3 x4 x5))) (own_set (fun _ => 0) 0 (nar .boolean (own_f7 (own_f3_delete x3 (own_f0_1 x0 x1 x2 x3 x4 x5))))) 1 fs28 mx28 am28 (-1 : Int32) 0 n0 T28.heap B28 (by decide)) (by decide) (W := 0) (by decide) (by decide) (by decide) (g := (mkF m 65 #[.val (.long x0), .second, .val (.long x1), .second, .val (.long x2), .second, .val (.long x3), .second, .val (.long x4), .second, .val (.int x5), .val (.ref a1), .val (.ref a16), .unset, .unset, .unset] [(.long x0), (.ref a1)])) rfl (by rw [hml]; rfl) (argsL := [(.long x0)]) (rest := []) (lenOf pd_10 rfl) rfl (by show 2 * 0 + _ ≤ _; exact Nat.le_of_eq rfl) (hb hby at_65)
          obtain ⟨rfl, N65, K65, iA, S65, ixn65, lb65, hbl65, hiA65, B65, I65⟩ := q65
          have Nn65 := Fr.app Nn28 N65
          have IV65 := own_bld_inv (by decide) hbl65
          have en_iA : a16 ≠ iA := Nat.ne_of_lt (Nat.lt_of_lt_of_le f29.lt hiA65)
          have f66 := f29.keep K65
          have f67 := f30.keep K65 (own_nin en_w)
          have f68 := f31.keep K65 (own_nin en_w)
          refine own_Goes.step st65 ?_
          show own_Goes _ _ _ _ _ _ _ (T65.setTop (mkF m 68 #[.val (.long x0), .second, .val (.long x1), .second, .val (.long x2), .second, .val (.long x3), .second, .val (.long x4), .second, .val (.int x5), .val (.ref a1), .val (.ref a16), .unset, .unset, .unset] [(.int (own_bi (own_mem (own_setJ (fun _ => 0) 0 x0) 1 x0)))]))
          refine own_Goes.step (fun tq kq => XT.pop Y65.here hx rfl (hb hby at_68) rfl rfl kq) ?_
          show own_Goes _ _ _ _ _ _ _ (T65.setTop (mkF m 69 #[.val (.long x0), .second, .val (.long x1), .second, .val (.long x2), .second, .val (.long x3), .second, .val (.long x4), .second, .val (.int x5), .val (.ref a1), .val (.ref a16), .unset, .unset, .unset] []))
          refine own_Goes.step (fun tq kq => XS.aload Y65.here hx rfl (hb hby at_69) rfl rfl kq) ?_
          show own_Goes _ _ _ _ _ _ _ (T65.setTop (mkF m 71 #[.val (.long x0), .second, .val (.long x1), .second, .val (.long x2), .second, .val (.long x3), .second, .val (.long x4), .second, .val (.int x5), .val (.ref a1), .val (.ref a16), .unset, .unset, .unset] [(.ref a1)]))
          obtain ⟨w69, T69, L69, q69, Y69, st69⟩ := own_virt Y65 hx hZ rfl (own_W.exa B65) hown (own_at hw 63 rfl) (own_at hw 64 rfl) (own_at hw 66 rfl) (own_at hw 65 rfl) (own_at hw 2 rfl) (own_at hw 67 rfl) (by decide) (own_m8 l Z a0 hw [] a1 kA sA dA pA (own_setJ (fun _ => 0) 0 x0) (own_setJ (fun _ => 0) 0 (own_f3_size x3 (own_f0_1 x0 x1 x2 x3 x4 x5))) (own_set (fun _ => 0) 0 (nar .boolean (own_f7 (own_f3_delete x3 (own_f0_1 x0 x1 x2 x3 x4 x5))))) 1 fs28 mx28 am28 lb65 (Int32.ofNat ixn65) (.ref iA) n0 T65.heap B65) (by decide) (W := 0) (by decide) (by decide) (by decide) (g := (mkF m 71 #[.val (.long x0), .second, .val (.long x1), .second, .val (.long x2), .second, .val (.long x3), .second, .val (.long x4), .second, .val (.int x5), .val (.ref a1), .val (.ref a16), .unset, .unset, .unset] [(.ref a1)])) rfl (by rw [hml]; rfl) (argsL := []) (rest := []) (lenOf pd_8 rfl) rfl (by show 2 * 0 + _ ≤ _; exact Nat.le_of_eq rfl) (hb hby at_71)
          obtain ⟨rfl, N69, K69, B69⟩ := q69
          have Nn69 := Fr.app Nn65 N69
          refine own_Goes.step st69 ?_
          show own_Goes _ _ _ _ _ _ _ (T69.setTop (mkF m 74 #[.val (.long x0), .second, .val (.long x1), .second, .val (.long x2), .second, .val (.long x3), .second, .val (.long x4), .second, .val (.int x5), .val (.ref a1), .val (.ref a16), .unset, .unset, .unset] []))
          exact JC T69 _ _ (own_more Y69 (by decide) (by decide)) rfl Nn69 _ _ _ _ _ _ _ B69
      · refine own_Goes.step (fun tq kq => XS.ifNo Y28.here hx rfl (hb hby at_44) rfl (XT.i0_eq_f hc62) kq) ?_
        show own_Goes _ _ _ _ _ _ _ (T28.setTop (mkF m 47 #[.val (.long x0), .second, .val (.long x1), .second, .val (.long x2), .second, .val (.long x3), .second, .val (.long x4), .second, .val (.int x5), .val (.ref a1), .val (.ref a16), .unset, .unset, .unset] []))
        refine own_Goes.step (fun tq kq => XS.aload Y28.here hx rfl (hb hby at_47) rfl rfl kq) ?_
        show own_Goes _ _ _ _ _ _ _ (T28.setTop (mkF m 49 #[.val (.long x0), .second, .val (.long x1), .second, .val (.long x2), .second, .val (.long x3), .second, .val (.long x4), .second, .val (.int x5), .val (.ref a1), .val (.ref a16), .unset, .unset, .unset] [(.ref a1)]))
        refine own_Goes.step (fun tq kq => XT.lloadN Y28.here hx rfl (hb hby at_49) rfl kq) ?_
        show own_Goes _ _ _ _ _ _ _ (T28.setTop (mkF m 50 #[.val (.long x0), .second, .val (.long x1), .second, .val (.long x2), .second, .val (.long x3), .second, .val (.long x4), .second, .val (.int x5), .val (.ref a1), .val (.ref a16), .unset, .unset, .unset] [(.long x1), (.ref a1)]))
        refine own_Goes.step (fun tq kq => XS.aload Y28.here hx rfl (hb hby at_50) rfl rfl kq) ?_
        show own_Goes _ _ _ _ _ _ _ (T28.setTop (mkF m 52 #[.val (.long x0), .second, .val (.long x1), .second, .val (.long x2), .second, .val (.long x3), .second, .val (.long x4), .second, .val (.int x5), .val (.ref a1), .val (.ref a16), .unset, .unset, .unset] [(.ref a16), (.long x1), (.ref a1)]))
        obtain ⟨w70, T70, L70, q70, Y70, st70⟩ := own_virt Y28 hx hZ rfl (own_W.exa B28) hown (own_at hw 38 rfl) (own_at hw 39 rfl) (own_at hw 41 rfl) (own_at hw 40 rfl) (own_at hw 2 rfl) (own_at hw 42 rfl) (by decide) (own_m5n l Z a0 hw [] a1 x1 a16 kA sA dA pA (own_setJ (fun _ => 0) 0 x0) (own_setJ (fun _ => 0) 0 (own_f3_size x3 (own_f0_1 x0 x1 x2 x3 x4 x5))) (own_set (fun _ => 0) 0 (nar .boolean (own_f7 (own_f3_delete x3 (own_f0_1 x0 x1 x2 x3 x4 x5))))) 1 fs28 mx28 am28 (-1 : Int32) 0 (own_f3_size x3 (own_f0_1 x0 x1 x2 x3 x4 x5)) (own_f3_delete x3 (own_f0_1 x0 x1 x2 x3 x4 x5)) n0 T28.heap B28 f29 f30 f31 (own_flA x0 x1 x2 x3 x4 x5) en_w en_kA en_sA en_dA en_pA (by decide)) (by decide) (W := 0) (by decide) (by decide) (by decide) (g := (mkF m 52 #[.val (.long x0), .second, .val (.long x1), .second, .val (.long x2), .second, .val (.long x3), .second, .val (.long x4), .second, .val (.int x5), .val (.ref a1), .val (.ref a16), .unset, .unset, .unset] [(.ref a16), (.long x1), (.ref a1)])) rfl (by rw [hml]; rfl) (argsL := [(.long x1), (.ref a16)]) (rest := []) (lenOf pd_5 rfl) rfl (by show 2 * 0 + _ ≤ _; exact Nat.le_of_eq rfl) (hb hby at_52)
        obtain ⟨rfl, N70, K70, fs70, mx70, am70, -, B70⟩ := q70
        have Nn70 := Fr.app Nn28 N70
        have f71 := f29.keep K70
        have f72 := f30.keep K70 (own_nin4 en_w en_kA en_sA en_dA)
        have f73 := f31.keep K70 (own_nin4 en_w en_kA en_sA en_dA)
        refine own_Goes.step st70 ?_
        show own_Goes _ _ _ _ _ _ _ (T70.setTop (mkF m 55 #[.val (.long x0), .second, .val (.long x1), .second, .val (.long x2), .second, .val (.long x3), .second, .val (.long x4), .second, .val (.int x5), .val (.ref a1), .val (.ref a16), .unset, .unset, .unset] []))
        refine own_Goes.step (fun tq kq => XS.iload Y70.here hx rfl (hb hby at_55) rfl kq) ?_
        show own_Goes _ _ _ _ _ _ _ (T70.setTop (mkF m 57 #[.val (.long x0), .second, .val (.long x1), .second, .val (.long x2), .second, .val (.long x3), .second, .val (.long x4), .second, .val (.int x5), .val (.ref a1), .val (.ref a16), .unset, .unset, .unset] [(.int x5)]))
        refine own_Goes.step (fun tq kq => XT.iconstV Y70.here hx rfl (4 : Int32) (hb hby at_57) (by decide) kq) ?_
        show own_Goes _ _ _ _ _ _ _ (T70.setTop (mkF m 58 #[.val (.long x0), .second, .val (.long x1), .second, .val (.long x2), .second, .val (.long x3), .second, .val (.long x4), .second, .val (.int x5), .val (.ref a1), .val (.ref a16), .unset, .unset, .unset] [(.int (4 : Int32)), (.int x5)]))
        refine own_Goes.step (fun tq kq => XS.iand Y70.here hx rfl (hb hby at_58) rfl kq) ?_
        show own_Goes _ _ _ _ _ _ _ (T70.setTop (mkF m 59 #[.val (.long x0), .second, .val (.long x1), .second, .val (.long x2), .second, .val (.long x3), .second, .val (.long x4), .second, .val (.int x5), .val (.ref a1), .val (.ref a16), .unset, .unset, .unset] [(.int (x5 &&& (4 : Int32)))]))
        by_cases hc74 : (x5 &&& (4 : Int32)) = (0 : Int32)
        · refine own_Goes.step (fun tq kq => XS.ifYes Y70.here hx rfl (pc0 := 59) (pc' := 69) rfl (hb hby at_59) rfl (XT.i0_eq_t hc74) (by decide) (by decide) kq) ?_
          show own_Goes _ _ _ _ _ _ _ (T70.setTop (mkF m 69 #[.val (.long x0), .second, .val (.long x1), .second, .val (.long x2), .second, .val (.long x3), .second, .val (.long x4), .second, .val (.int x5), .val (.ref a1), .val (.ref a16), .unset, .unset, .unset] []))
          refine own_Goes.step (fun tq kq => XS.aload Y70.here hx rfl (hb hby at_69) rfl rfl kq) ?_
          show own_Goes _ _ _ _ _ _ _ (T70.setTop (mkF m 71 #[.val (.long x0), .second, .val (.long x1), .second, .val (.long x2), .second, .val (.long x3), .second, .val (.long x4), .second, .val (.int x5), .val (.ref a1), .val (.ref a16), .unset, .unset, .unset] [(.ref a1)]))
          obtain ⟨w75, T75, L75, q75, Y75, st75⟩ := own_virt Y70 hx hZ rfl (own_W.exa B70) hown (own_at hw 63 rfl) (own_at hw 64 rfl) (own_at hw 66 rfl) (own_at hw 65 rfl) (own_at hw 2 rfl) (own_at hw 67 rfl) (by decide) (own_m8 l Z a0 hw [] a1 kA sA dA pA (own_setJ (own_setJ (fun _ => 0) 0 x0) 1 x1) (own_setJ (own_setJ (fun _ => 0) 0 (own_f3_size x3 (own_f0_1 x0 x1 x2 x3 x4 x5))) 1 (own_f3_size x3 (own_f0_1 x0 x1 x2 x3 x4 x5))) (own_set (own_set (fun _ => 0) 0 (nar .boolean (own_f7 (own_f3_delete x3 (own_f0_1 x0 x1 x2 x3 x4 x5))))) 1 (nar .boolean (own_f7 (own_f3_delete x3 (own_f0_1 x0 x1 x2 x3 x4 x5))))) 2 fs70 mx70 am70 (-1 : Int32) 0 .null n0 T70.heap B70) (by decide) (W := 0) (by decide) (by decide) (by decide) (g := (mkF m 71 #[.val (.long x0), .second, .val (.long x1), .second, .val (.long x2), .second, .val (.long x3), .second, .val (.long x4), .second, .val (.int x5), .val (.ref a1), .val (.ref a16), .unset, .unset, .unset] [(.ref a1)])) rfl (by rw [hml]; rfl) (argsL := []) (rest := []) (lenOf pd_8 rfl) rfl (by show 2 * 0 + _ ≤ _; exact Nat.le_of_eq rfl) (hb hby at_71)
          obtain ⟨rfl, N75, K75, B75⟩ := q75
          have Nn75 := Fr.app Nn70 N75
          refine own_Goes.step st75 ?_
          show own_Goes _ _ _ _ _ _ _ (T75.setTop (mkF m 74 #[.val (.long x0), .second, .val (.long x1), .second, .val (.long x2), .second, .val (.long x3), .second, .val (.long x4), .second, .val (.int x5), .val (.ref a1), .val (.ref a16), .unset, .unset, .unset] []))
          exact JC T75 _ _ (own_more Y75 (by decide) (by decide)) rfl Nn75 _ _ _ _ _ _ _ B75
        · refine own_Goes.step (fun tq kq => XS.ifNo Y70.here hx rfl (hb hby at_59) rfl (XT.i0_eq_f hc74) kq) ?_
          show own_Goes _ _ _ _ _ _ _ (T70.setTop (mkF m 62 #[.val (.long x0), .second, .val (.long x1), .second, .val (.long x2), .second, .val (.long x3), .second, .val (.long x4), .second, .val (.int x5), .val (.ref a1), .val (.ref a16), .unset, .unset, .unset] []))
          refine own_Goes.step (fun tq kq => XS.aload Y70.here hx rfl (hb hby at_62) rfl rfl kq) ?_
          show own_Goes _ _ _ _ _ _ _ (T70.setTop (mkF m 64 #[.val (.long x0), .second, .val (.long x1), .second, .val (.long x2), .second, .val (.long x3), .second, .val (.long x4), .second, .val (.int x5), .val (.ref a1), .val (.ref a16), .unset, .unset, .unset] [(.ref a1)]))
          refine own_Goes.step (fun tq kq => XT.lloadN Y70.here hx rfl (hb hby at_64) rfl kq) ?_
          show own_Goes _ _ _ _ _ _ _ (T70.setTop (mkF m 65 #[.val (.long x0), .second, .val (.long x1), .second, .val (.long x2), .second, .val (.long x3), .second, .val (.long x4), .second, .val (.int x5), .val (.ref a1), .val (.ref a16), .unset, .unset, .unset] [(.long x0), (.ref a1)]))
          obtain ⟨w76, T76, L76, q76, Y76, st76⟩ := own_virt Y70 hx hZ rfl (own_W.exa B70) hown (own_at hw 75 rfl) (own_at hw 76 rfl) (own_at hw 78 rfl) (own_at hw 77 rfl) (own_at hw 2 rfl) (own_at hw 79 rfl) (by decide) (own_m10n l Z a0 hw [] a1 x0 kA sA dA pA (own_setJ (own_setJ (fun _ => 0) 0 x0) 1 x1) (own_setJ (own_setJ (fun _ => 0) 0 (own_f3_size x3 (own_f0_1 x0 x1 x2 x3 x4 x5))) 1 (own_f3_size x3 (own_f0_1 x0 x1 x2 x3 x4 x5))) (own_set (own_set (fun _ => 0) 0 (nar .boolean (own_f7 (own_f3_delete x3 (own_f0_1 x0 x1 x2 x3 x4 x5))))) 1 (nar .boolean (own_f7 (own_f3_delete x3 (own_f0_1 x0 x1 x2 x3 x4 x5))))) 2 fs70 mx70 am70 (-1 : Int32) 0 n0 T70.heap B70 (by decide)) (by decide) (W := 0) (by decide) (by decide) (by decide) (g := (mkF m 65 #[.val (.long x0), .second, .val (.long x1), .second, .val (.long x2), .second, .val (.long x3), .second, .val (.long x4), .second, .val (.int x5), .val (.ref a1), .val (.ref a16), .unset, .unset, .unset] [(.long x0), (.ref a1)])) rfl (by rw [hml]; rfl) (argsL := [(.long x0)]) (rest := []) (lenOf pd_10 rfl) rfl (by show 2 * 0 + _ ≤ _; exact Nat.le_of_eq rfl) (hb hby at_65)
          obtain ⟨rfl, N76, K76, iA, S76, ixn76, lb76, hbl76, hiA76, B76, I76⟩ := q76
          have Nn76 := Fr.app Nn70 N76
          have IV76 := own_bld_inv (by decide) hbl76
          have en_iA : a16 ≠ iA := Nat.ne_of_lt (Nat.lt_of_lt_of_le f71.lt hiA76)
          have f77 := f71.keep K76
          have f78 := f72.keep K76 (own_nin en_w)
          have f79 := f73.keep K76 (own_nin en_w)
          refine own_Goes.step st76 ?_
          show own_Goes _ _ _ _ _ _ _ (T76.setTop (mkF m 68 #[.val (.long x0), .second, .val (.long x1), .second, .val (.long x2), .second, .val (.long x3), .second, .val (.long x4), .second, .val (.int x5), .val (.ref a1), .val (.ref a16), .unset, .unset, .unset] [(.int (own_bi (own_mem (own_setJ (own_setJ (fun _ => 0) 0 x0) 1 x1) 2 x0)))]))
          refine own_Goes.step (fun tq kq => XT.pop Y76.here hx rfl (hb hby at_68) rfl rfl kq) ?_
          show own_Goes _ _ _ _ _ _ _ (T76.setTop (mkF m 69 #[.val (.long x0), .second, .val (.long x1), .second, .val (.long x2), .second, .val (.long x3), .second, .val (.long x4), .second, .val (.int x5), .val (.ref a1), .val (.ref a16), .unset, .unset, .unset] []))
          refine own_Goes.step (fun tq kq => XS.aload Y76.here hx rfl (hb hby at_69) rfl rfl kq) ?_
          show own_Goes _ _ _ _ _ _ _ (T76.setTop (mkF m 71 #[.val (.long x0), .second, .val (.long x1), .second, .val (.long x2), .second, .val (.long x3), .second, .val (.long x4), .second, .val (.int x5), .val (.ref a1), .val (.ref a16), .unset, .unset, .unset] [(.ref a1)]))
          obtain ⟨w80, T80, L80, q80, Y80, st80⟩ := own_virt Y76 hx hZ rfl (own_W.exa B76) hown (own_at hw 63 rfl) (own_at hw 64 rfl) (own_at hw 66 rfl) (own_at hw 65 rfl) (own_at hw 2 rfl) (own_at hw 67 rfl) (by decide) (own_m8 l Z a0 hw [] a1 kA sA dA pA (own_setJ (own_setJ (fun _ => 0) 0 x0) 1 x1) (own_setJ (own_setJ (fun _ => 0) 0 (own_f3_size x3 (own_f0_1 x0 x1 x2 x3 x4 x5))) 1 (own_f3_size x3 (own_f0_1 x0 x1 x2 x3 x4 x5))) (own_set (own_set (fun _ => 0) 0 (nar .boolean (own_f7 (own_f3_delete x3 (own_f0_1 x0 x1 x2 x3 x4 x5))))) 1 (nar .boolean (own_f7 (own_f3_delete x3 (own_f0_1 x0 x1 x2 x3 x4 x5))))) 2 fs70 mx70 am70 lb76 (Int32.ofNat ixn76) (.ref iA) n0 T76.heap B76) (by decide) (W := 0) (by decide) (by decide) (by decide) (g := (mkF m 71 #[.val (.long x0), .second, .val (.long x1), .second, .val (.long x2), .second, .val (.long x3), .second, .val (.long x4), .second, .val (.int x5), .val (.ref a1), .val (.ref a16), .unset, .unset, .unset] [(.ref a1)])) rfl (by rw [hml]; rfl) (argsL := []) (rest := []) (lenOf pd_8 rfl) rfl (by show 2 * 0 + _ ≤ _; exact Nat.le_of_eq rfl) (hb hby at_71)
          obtain ⟨rfl, N80, K80, B80⟩ := q80
          have Nn80 := Fr.app Nn76 N80
          refine own_Goes.step st80 ?_
          show own_Goes _ _ _ _ _ _ _ (T80.setTop (mkF m 74 #[.val (.long x0), .second, .val (.long x1), .second, .val (.long x2), .second, .val (.long x3), .second, .val (.long x4), .second, .val (.int x5), .val (.ref a1), .val (.ref a16), .unset, .unset, .unset] []))
          exact JC T80 _ _ (own_more Y80 (by decide) (by decide)) rfl Nn80 _ _ _ _ _ _ _ B80
    by_cases hc20 : (x5 &&& (1 : Int32)) = (0 : Int32)
    · refine own_Goes.step (fun tq kq => XS.ifYes X16.here hx rfl (pc0 := 19) (pc' := 26) rfl (hb hby at_19) rfl (XT.i0_eq_t hc20) (by decide) (by decide) kq) ?_
      show own_Goes _ _ _ _ _ _ _ (T16.setTop (mkF m 26 #[.val (.long x0), .second, .val (.long x1), .second, .val (.long x2), .second, .val (.long x3), .second, .val (.long x4), .second, .val (.int x5), .val (.ref a1), .unset, .unset, .unset, .unset] [(.long x3), (.ref a16), (.ref a16)]))
      refine own_Goes.step (fun tq kq => XT.iconstV X16.here hx rfl (0 : Int32) (hb hby at_26) (by decide) kq) ?_
      show own_Goes _ _ _ _ _ _ _ (T16.setTop (mkF m 27 #[.val (.long x0), .second, .val (.long x1), .second, .val (.long x2), .second, .val (.long x3), .second, .val (.long x4), .second, .val (.int x5), .val (.ref a1), .unset, .unset, .unset, .unset] [(.int (0 : Int32)), (.long x3), (.ref a16), (.ref a16)]))
      rw [show (own_f0_1 x0 x1 x2 x3 x4 x5) = (0 : Int32) from by simp only [own_f0_1, if_pos hc20]] at J81
      exact J81
    · refine own_Goes.step (fun tq kq => XS.ifNo X16.here hx rfl (hb hby at_19) rfl (XT.i0_eq_f hc20) kq) ?_
      show own_Goes _ _ _ _ _ _ _ (T16.setTop (mkF m 22 #[.val (.long x0), .second, .val (.long x1), .second, .val (.long x2), .second, .val (.long x3), .second, .val (.long x4), .second, .val (.int x5), .val (.ref a1), .unset, .unset, .unset, .unset] [(.long x3), (.ref a16), (.ref a16)]))
      refine own_Goes.step (fun tq kq => XT.iconstV X16.here hx rfl (1 : Int32) (hb hby at_22) (by decide) kq) ?_
      show own_Goes _ _ _ _ _ _ _ (T16.setTop (mkF m 23 #[.val (.long x0), .second, .val (.long x1), .second, .val (.long x2), .second, .val (.long x3), .second, .val (.long x4), .second, .val (.int x5), .val (.ref a1), .unset, .unset, .unset, .unset] [(.int (1 : Int32)), (.long x3), (.ref a16), (.ref a16)]))
      refine own_Goes.step (fun tq kq => XS.goto X16.here hx rfl (pc0 := 23) (pc' := 27) rfl (hb hby at_23) (by decide) (by decide) kq) ?_
      show own_Goes _ _ _ _ _ _ _ (T16.setTop (mkF m 27 #[.val (.long x0), .second, .val (.long x1), .second, .val (.long x2), .second, .val (.long x3), .second, .val (.long x4), .second, .val (.int x5), .val (.ref a1), .unset, .unset, .unset, .unset] [(.int (1 : Int32)), (.long x3), (.ref a16), (.ref a16)]))
      rw [show (own_f0_1 x0 x1 x2 x3 x4 x5) = (1 : Int32) from by simp only [own_f0_1, if_neg hc20]] at J81
      exact J81
  obtain ⟨t2, o2, q1, q2, q3, q4⟩ := hgo
  exact ⟨t2, o2, castTop (ef_0 m x0 x1 x2 x3 x4 x5) q1, q2, q3, q4⟩

set_option maxRecDepth 65536 in
set_option maxHeartbeats 40000000 in
theorem comes_1 {Post : Tables → Env → Array Value → State → Outcome → State → Prop} (hpost : ∀ tb e args s v u, (limb_1_1.after args s (.returned v) u = true ∧ limb_1_2.after args s (.returned v) u = true ∧ True) → FrameEnd s (.returned v) u (Jvm.fieldLocs frame_1_writes args s ++ Jvm.arrayLocs frame_1_arrays args s ++ Jvm.staticLocs frame_1_statics s) 40 320 → Post tb e args s (.returned v) u) :
    ArmFor flags0 classFile x code maxLocals ret World_1 tables_1 room_1 Calls_1 rest_1 Pre_1 Post := by
  intro l hfl _ _ p e ha hc hk s m args below hf hA hF happ hP
  obtain ⟨hcalls, hrest, hpre⟩ := hP
  obtain ⟨-, -, -, hnamed, -, -, -, hat⟩ := (Spec.applies_iff hf).mp happ
  obtain ⟨hg, hn⟩ := and_e (Cond.before_iff.mp (show (Jvm.Cond.and given_1 narrow_1).before args s = true from hpre))
  obtain ⟨hcount, hr0⟩ := and_e hg
  obtain ⟨w0, w1, w2, w3, w4, w5, rfl⟩ : ∃ w0 w1 w2 w3 w4 w5 : Value, args = #[w0, w1, w2, w3, w4, w5] := by
    have hs : args.size = 6 := by simpa [Cond.value, given_1] using hcount
    obtain ⟨L⟩ := args
    match L, hs with
    | [w0, w1, w2, w3, w4, w5], _ => exact ⟨w0, w1, w2, w3, w4, w5, rfl⟩
  have hw := fun d (hd : d ∈ tables_1) => atoms_spec (ws := Jvm.Cond.code x code maxLocals ret :: tables_1) hat d (List.mem_cons_of_mem _ hd)
  obtain ⟨ha0, hr1⟩ := and_e hr0
  obtain ⟨i0, ev0⟩ := isL_v ha0
  obtain rfl : w0 = (.long i0) := Option.some.inj ev0
  obtain ⟨ha1, hr2⟩ := and_e hr1
  obtain ⟨i1, ev1⟩ := isL_v ha1
  obtain rfl : w1 = (.long i1) := Option.some.inj ev1
  obtain ⟨ha2, hr3⟩ := and_e hr2
  obtain ⟨i2, ev2⟩ := isL_v ha2
  obtain rfl : w2 = (.long i2) := Option.some.inj ev2
  obtain ⟨ha3, hr4⟩ := and_e hr3
  obtain ⟨i3, ev3⟩ := isL_v ha3
  obtain rfl : w3 = (.long i3) := Option.some.inj ev3
  obtain ⟨ha4, hr5⟩ := and_e hr4
  obtain ⟨i4, ev4⟩ := isL_v ha4
  obtain rfl : w4 = (.long i4) := Option.some.inj ev4
  obtain ⟨i5, ev5⟩ := is_v hr5
  obtain rfl : w5 = (.int i5) := Option.some.inj ev5
  obtain ⟨n, o, h1, h2, h3, _, L, rfl, ⟨rfl, N⟩, hq⟩ := own_m0 l s _ hw tables_1 i0 i1 i2 i3 i4 i5 s.heap.size s.heap (Nat.le_refl _) p e ha hc hk s m _ below hf ((Spec.applies_iff_loose hf).mp happ).1 ⟨rfl, State.Warmed39.refl s, rfl⟩ trivial
  refine ⟨n, _, h1, h2, h3, hpost _ _ _ _ _ _ ⟨Cond.after_iff.mpr rfl, Cond.after_iff.mpr (eq_i res_at (Term.int_eval (1)) rfl), trivial⟩ ⟨hq.1, hq.2.1, (hq.2.2.sift fun y hy => Or.inr (N y hy)).mono (by decide) (by decide)⟩⟩
theorem main_1_1 : Claimed_1_1 := comes_1 fun _ _ _ _ _ _ h hF => ⟨h.1, hF⟩
theorem main_1_2 : Claimed_1_2 := comes_1 fun _ _ _ _ _ _ h hF => ⟨h.2.1, hF⟩
end Jvm.Pilot.@@N@@
namespace Jvm.Pilot.@@N@@
open Jvm Jvm.ClassFile Sem Op Lib Jvm.Free Jvm.Stand Jvm.Pilot.@@N@@.Jvm.D
/-! MADE BY PROGRAM (witnessworld.py) out of the Statement's table words and the real class files: 28 classes; the members and pool entries that the words name. The judged class is class 1, her method 1. -/
namespace start1
open Jvm.ClassFile
def u (s : String) : CpInfo := .utf8 (stringToUtf16 s)
/-- a pool by its gaps: so many unusable entries, then the entry; so many at the end -/
def gap : Nat → List CpInfo → List CpInfo
  | 0, r => r
  | n + 1, r => .unusable :: gap n r
def poolList (es : List (Nat × CpInfo)) (last : Nat) : List CpInfo := es.foldr (fun e r => gap e.1 (e.2 :: r)) (gap last [])
def pool (es : List (Nat × CpInfo)) (last : Nat) : Array CpInfo := ⟨poolList es last⟩
def fileOf (pool : Array CpInfo) (this : Nat) (attrs : Array Attribute := #[]) (ms : Array MethodInfo := #[]) (fl : Nat := 33) (sup : Nat := 0) (ifs : Array Nat := #[]) (fds : Array FieldInfo := #[]) : ClassFile where
  minorVersion := 0
  majorVersion := 65
  constantPool := pool
  accessFlags := fl
  thisClass := this
  superClass := sup
  interfaces := ifs
  fields := fds
  methods := ms
  attributes := attrs
def plain (name : String) (sup : Option ClassId) : Class where
  name := name
  kind := .ordinary
  loader := none
  accessFlags := 33
  super := sup
  interfaces := #[]
  cf := none
  fields := #[]
  methods := #[]
  instanceTypes := #[]
  staticTypes := #[]
  resolved := #[]
  callSites := []
  init := .initialized
  statics := none
  mirror := none

def pool0 : Array CpInfo := pool [(5, u "<init>"), (0, u "()V"), (1, .class_ 10), (1, u "java/lang/Object")] 113

def k0c0 : Code := { maxStack := 0, maxLocals := 1, code := object_method_1_code, exceptionTable := #[], attributes := #[] }
def k0m0 : Method := { name := "<init>", desc := "()V", sig := { parameters := [], returnType := none }, accessFlags := 1, code := some k0c0 }
/-- java/lang/Object -/
def k0 : Class := { plain "java/lang/Object" none with
  accessFlags := 33
  interfaces := #[]
  cf := some (fileOf pool0 8 #[] #[{ accessFlags := 1, nameIndex := 5, descriptorIndex := 6, attributes := #[] }] 33 0 #[] #[])
  fields := #[]
  methods := #[k0m0]
  instanceTypes := #[]
  staticTypes := #[]
  resolved := Array.replicate 124 none
  statics := none }

def pool1 : Array CpInfo := pool [(2, .class_ 4), (0, .nameAndType 5 6), (0, u "java/lang/Object"), (0, u "<init>"), (0, u "()V"), (0, .class_ 8), (0, u "com/example/strati/strati/sim/WriteBuffer"), (0, .methodref 7 3), (0, .class_ 11), (0, u "com/example/strati/strati/sim/Entry"), (0, .methodref 10 13), (0, .nameAndType 5 14), (0, u "(JZ)V"), (0, .methodref 7 16), (0, .nameAndType 17 18), (0, u "put"), (0, u "(JLcom/example/strati/strati/sim/Entry;)V"), (0, .methodref 7 20), (0, .nameAndType 21 22), (0, u "holds"), (0, u "(J)Z"), (0, .methodref 7 24), (0, .nameAndType 25 6), (0, u "clear"), (0, .methodref 7 27), (0, .nameAndType 28 29), (0, u "isEmpty"), (0, u "()Z"), (0, .methodref 7 31), (0, .nameAndType 32 33), (0, u "entries"), (0, u "()Lcom/example/strati/strati/sim/RunEntries;"), (0, .methodref 35 36), (0, .class_ 37), (0, .nameAndType 38 39), (0, u "com/example/strati/strati/sim/RunEntries"), (0, u "count"), (0, u "()I"), (0, .methodref 35 41), (0, .nameAndType 42 43), (0, u "size"), (0, u "()J"), (0, .class_ 45), (0, u "com/example/strati/strati/sim/WriteBufferClearPinLaw"), (2, u "law"), (0, u "(JJJJJI)Z")] 3

def k1m0 : Method := { name := "<init>", desc := "()V", sig := { parameters := [], returnType := none }, accessFlags := 1, code := none }
def k1c1 : Code := { maxStack := 9, maxLocals := 16, code := code, exceptionTable := #[], attributes := #[] }
def k1m1 : Method := { name := "law", desc := "(JJJJJI)Z", sig := { parameters := [.long, .long, .long, .long, .long, .int], returnType := some .boolean }, accessFlags := 9, code := some k1c1 }
/-- com/example/strati/strati/sim/WriteBufferClearPinLaw -/
def k1 : Class := { plain "com/example/strati/strati/sim/WriteBufferClearPinLaw" (some 0) with
  accessFlags := 49
  interfaces := #[]
  cf := some (fileOf pool1 44 #[] #[{ accessFlags := 1, nameIndex := 5, descriptorIndex := 6, attributes := #[] }, { accessFlags := 9, nameIndex := 48, descriptorIndex := 49, attributes := #[] }] 49 2 #[] #[])
  fields := #[]
  methods := #[k1m0, k1m1]
  instanceTypes := #[]
  staticTypes := #[]
  resolved := Array.replicate 53 none
  statics := none }

def pool2 : Array CpInfo := pool [(1, .methodref 2 3), (0, .class_ 4), (0, .nameAndType 5 6), (0, u "java/lang/Object"), (0, u "<init>"), (0, u "()V"), (0, .class_ 8), (0, u "com/example/strati/strati/sim/WriteBuffer"), (0, .fieldref 7 10), (0, .nameAndType 11 12), (0, u "keys"), (0, u "[J"), (0, .fieldref 7 14), (0, .nameAndType 15 12), (0, u "sizes"), (0, .fieldref 7 17), (0, .nameAndType 18 19), (0, u "deletes"), (0, u "[Z"), (0, .fieldref 7 21), (0, .nameAndType 22 23), (0, u "positions"), (0, u "[I"), (0, .fieldref 7 25), (0, .nameAndType 26 27), (0, u "lastAdded"), (0, u "I"), (0, .fieldref 7 29), (0, .nameAndType 30 27), (0, u "count"), (3, .methodref 35 36), (0, .class_ 37), (0, .nameAndType 38 39), (0, u "com/example/strati/strati/sim/Entry"), (0, u "size"), (0, u "()J"), (0, .fieldref 7 41), (0, .nameAndType 42 43), (0, u "firstSize"), (0, u "J"), (0, .fieldref 7 45), (0, .nameAndType 46 47), (0, u "mixedSizes"), (0, u "Z"), (0, .fieldref 7 49), (0, .nameAndType 50 47), (0, u "anyMarker"), (0, .methodref 35 52), (0, .nameAndType 53 54), (0, u "delete"), (0, u "()Z"), (0, .fieldref 7 56), (0, .nameAndType 57 23), (0, u "slots"), (0, .methodref 7 59), (0, .nameAndType 60 61), (0, u "index"), (0, u "(I)V"), (0, .fieldref 7 63), (0, .nameAndType 64 27), (0, u "indexed"), (0, .methodref 7 66), (0, .nameAndType 67 6), (0, u "buildIndex"), (0, .methodref 7 69), (0, .nameAndType 70 71), (0, u "slot"), (0, u "([IJ)I"), (0, .methodref 73 74), (0, .class_ 75), (0, .nameAndType 76 77), (0, u "com/example/strati/strati/sim/UnsignedKeys"), (0, u "sortInto"), (0, u "([JI[J[I)V"), (0, .methodref 79 80), (0, .class_ 81), (0, .nameAndType 82 83), (0, u "com/example/strati/strati/sim/RunEntries"), (0, u "inKeyOrder"), (0, u "([J[JJ[ZI)Lcom/example/strati/strati/sim/RunEntries;"), (3, .methodref 88 89), (0, .class_ 90), (0, .nameAndType 91 92), (0, u "com/example/strati/strati/sim/SplitMix64"), (0, u "mix"), (0, u "(J)J"), (17, u "FIRST_ROOM"), (2, u "MAX_WRITES"), (2, u "put"), (0, u "(JLcom/example/strati/strati/sim/Entry;)V"), (2, u "holds"), (0, u "(J)Z"), (0, u "isEmpty"), (0, u "entries"), (0, u "()Lcom/example/strati/strati/sim/RunEntries;"), (3, u "clear")] 2

def k2c0 : Code := { maxStack := 2, maxLocals := 1, code := prog_67_method_1_code, exceptionTable := #[], attributes := #[] }
def k2m0 : Method := { name := "<init>", desc := "()V", sig := { parameters := [], returnType := none }, accessFlags := 0, code := some k2c0 }
def k2c1 : Code := { maxStack := 6, maxLocals := 4, code := prog_67_method_2_code, exceptionTable := #[], attributes := #[] }
def k2m1 : Method := { name := "put", desc := "(JLcom/example/strati/strati/sim/Entry;)V", sig := { parameters := [.long, (.object "com/example/strati/strati/sim/Entry")], returnType := none }, accessFlags := 0, code := some k2c1 }
def k2c2 : Code := { maxStack := 5, maxLocals := 3, code := prog_67_method_4_code, exceptionTable := #[], attributes := #[] }
def k2m2 : Method := { name := "holds", desc := "(J)Z", sig := { parameters := [.long], returnType := some .boolean }, accessFlags := 0, code := some k2c2 }
def k2c3 : Code := { maxStack := 1, maxLocals := 1, code := prog_67_method_5_code, exceptionTable := #[], attributes := #[] }
def k2m3 : Method := { name := "isEmpty", desc := "()Z", sig := { parameters := [], returnType := some .boolean }, accessFlags := 0, code := some k2c3 }
def k2c4 : Code := { maxStack := 6, maxLocals := 7, code := prog_67_method_6_code, exceptionTable := #[], attributes := #[] }
def k2m4 : Method := { name := "entries", desc := "()Lcom/example/strati/strati/sim/RunEntries;", sig := { parameters := [], returnType := some (.object "com/example/strati/strati/sim/RunEntries") }, accessFlags := 0, code := some k2c4 }
def k2c5 : Code := { maxStack := 2, maxLocals := 1, code := prog_67_method_7_code, exceptionTable := #[], attributes := #[] }
def k2m5 : Method := { name := "clear", desc := "()V", sig := { parameters := [], returnType := none }, accessFlags := 0, code := some k2c5 }
def k2c6 : Code := { maxStack := 3, maxLocals := 3, code := prog_67_method_8_code, exceptionTable := #[], attributes := #[] }
def k2m6 : Method := { name := "buildIndex", desc := "()V", sig := { parameters := [], returnType := none }, accessFlags := 2, code := some k2c6 }
def k2c7 : Code := { maxStack := 4, maxLocals := 5, code := prog_67_method_9_code, exceptionTable := #[], attributes := #[] }
def k2m7 : Method := { name := "index", desc := "(I)V", sig := { parameters := [.int], returnType := none }, accessFlags := 2, code := some k2c7 }
def k2c8 : Code := { maxStack := 4, maxLocals := 6, code := prog_67_method_11_code, exceptionTable := #[], attributes := #[] }
def k2m8 : Method := { name := "slot", desc := "([IJ)I", sig := { parameters := [(.array .int), .long], returnType := some .int }, accessFlags := 2, code := some k2c8 }
/-- com/example/strati/strati/sim/WriteBuffer -/
def k2 : Class := { plain "com/example/strati/strati/sim/WriteBuffer" (some 0) with
  accessFlags := 48
  interfaces := #[]
  cf := some (fileOf pool2 7 #[] #[{ accessFlags := 0, nameIndex := 5, descriptorIndex := 6, attributes := #[] }, { accessFlags := 0, nameIndex := 116, descriptorIndex := 117, attributes := #[] }, { accessFlags := 0, nameIndex := 120, descriptorIndex := 121, attributes := #[] }, { accessFlags := 0, nameIndex := 122, descriptorIndex := 54, attributes := #[] }, { accessFlags := 0, nameIndex := 123, descriptorIndex := 124, attributes := #[] }, { accessFlags := 0, nameIndex := 128, descriptorIndex := 6, attributes := #[] }, { accessFlags := 2, nameIndex := 67, descriptorIndex := 6, attributes := #[] }, { accessFlags := 2, nameIndex := 60, descriptorIndex := 61, attributes := #[] }, { accessFlags := 2, nameIndex := 70, descriptorIndex := 71, attributes := #[] }] 48 2 #[] #[{ accessFlags := 26, nameIndex := 110, descriptorIndex := 27, attributes := #[] }, { accessFlags := 26, nameIndex := 113, descriptorIndex := 27, attributes := #[] }, { accessFlags := 2, nameIndex := 11, descriptorIndex := 12, attributes := #[] }, { accessFlags := 2, nameIndex := 15, descriptorIndex := 12, attributes := #[] }, { accessFlags := 2, nameIndex := 18, descriptorIndex := 19, attributes := #[] }, { accessFlags := 2, nameIndex := 30, descriptorIndex := 27, attributes := #[] }, { accessFlags := 2, nameIndex := 42, descriptorIndex := 43, attributes := #[] }, { accessFlags := 2, nameIndex := 46, descriptorIndex := 47, attributes := #[] }, { accessFlags := 2, nameIndex := 50, descriptorIndex := 47, attributes := #[] }, { accessFlags := 2, nameIndex := 22, descriptorIndex := 23, attributes := #[] }, { accessFlags := 2, nameIndex := 57, descriptorIndex := 23, attributes := #[] }, { accessFlags := 2, nameIndex := 64, descriptorIndex := 27, attributes := #[] }, { accessFlags := 2, nameIndex := 26, descriptorIndex := 27, attributes := #[] }])
  fields := #[{ name := "FIRST_ROOM", type := .int, accessFlags := 26, slot := 0, constantValue := 0 }, { name := "MAX_WRITES", type := .int, accessFlags := 26, slot := 1, constantValue := 0 }, { name := "keys", type := (.array .long), accessFlags := 2, slot := 0, constantValue := 0 }, { name := "sizes", type := (.array .long), accessFlags := 2, slot := 1, constantValue := 0 }, { name := "deletes", type := (.array .boolean), accessFlags := 2, slot := 2, constantValue := 0 }, { name := "count", type := .int, accessFlags := 2, slot := 3, constantValue := 0 }, { name := "firstSize", type := .long, accessFlags := 2, slot := 4, constantValue := 0 }, { name := "mixedSizes", type := .boolean, accessFlags := 2, slot := 5, constantValue := 0 }, { name := "anyMarker", type := .boolean, accessFlags := 2, slot := 6, constantValue := 0 }, { name := "positions", type := (.array .int), accessFlags := 2, slot := 7, constantValue := 0 }, { name := "slots", type := (.array .int), accessFlags := 2, slot := 8, constantValue := 0 }, { name := "indexed", type := .int, accessFlags := 2, slot := 9, constantValue := 0 }, { name := "lastAdded", type := .int, accessFlags := 2, slot := 10, constantValue := 0 }]
  methods := #[k2m0, k2m1, k2m2, k2m3, k2m4, k2m5, k2m6, k2m7, k2m8]
  instanceTypes := #[(.array .long), (.array .long), (.array .boolean), .int, .long, .boolean, .boolean, (.array .int), (.array .int), .int, .int]
  staticTypes := #[.int, .int]
  resolved := Array.replicate 131 none
  statics := none }

def pool3 : Array CpInfo := pool [(1, .methodref 2 3), (0, .class_ 4), (0, .nameAndType 5 6), (0, u "java/lang/Object"), (0, u "<init>"), (0, u "()V"), (0, .class_ 8), (0, u "java/lang/Record")] 13

def k3c0 : Code := { maxStack := 1, maxLocals := 1, code := jdk_30_method_1_code, exceptionTable := #[], attributes := #[] }
def k3m0 : Method := { name := "<init>", desc := "()V", sig := { parameters := [], returnType := none }, accessFlags := 4, code := some k3c0 }
/-- java/lang/Record -/
def k3 : Class := { plain "java/lang/Record" (some 0) with
  accessFlags := 1057
  interfaces := #[]
  cf := some (fileOf pool3 7 #[] #[{ accessFlags := 4, nameIndex := 5, descriptorIndex := 6, attributes := #[] }] 1057 2 #[] #[])
  fields := #[]
  methods := #[k3m0]
  instanceTypes := #[]
  staticTypes := #[]
  resolved := Array.replicate 22 none
  statics := none }

def pool4 : Array CpInfo := pool [(1, .methodref 2 3), (0, .class_ 4), (0, .nameAndType 5 6), (0, u "java/lang/Record"), (0, u "<init>"), (0, u "()V"), (0, .fieldref 8 9), (0, .class_ 10), (0, .nameAndType 11 12), (0, u "com/example/strati/strati/sim/Entry"), (0, u "size"), (0, u "J"), (0, .fieldref 8 14), (0, .nameAndType 15 16), (0, u "delete"), (0, u "Z"), (19, u "(JZ)V"), (23, u "DELETE"), (0, u "Lcom/example/strati/strati/sim/Entry;"), (0, u "KEY_BYTES"), (10, u "()J"), (0, u "()Z")] 32

def k4c0 : Code := { maxStack := 3, maxLocals := 4, code := prog_35_method_1_code, exceptionTable := #[], attributes := #[] }
def k4m0 : Method := { name := "<init>", desc := "(JZ)V", sig := { parameters := [.long, .boolean], returnType := none }, accessFlags := 0, code := some k4c0 }
def k4c1 : Code := { maxStack := 2, maxLocals := 1, code := prog_35_method_6_code, exceptionTable := #[], attributes := #[] }
def k4m1 : Method := { name := "size", desc := "()J", sig := { parameters := [], returnType := some .long }, accessFlags := 1, code := some k4c1 }
def k4c2 : Code := { maxStack := 1, maxLocals := 1, code := prog_35_method_7_code, exceptionTable := #[], attributes := #[] }
def k4m2 : Method := { name := "delete", desc := "()Z", sig := { parameters := [], returnType := some .boolean }, accessFlags := 1, code := some k4c2 }
/-- com/example/strati/strati/sim/Entry -/
def k4 : Class := { plain "com/example/strati/strati/sim/Entry" (some 3) with
  accessFlags := 48
  interfaces := #[]
  cf := some (fileOf pool4 8 #[] #[{ accessFlags := 0, nameIndex := 5, descriptorIndex := 36, attributes := #[] }, { accessFlags := 1, nameIndex := 11, descriptorIndex := 73, attributes := #[] }, { accessFlags := 1, nameIndex := 15, descriptorIndex := 74, attributes := #[] }] 48 2 #[] #[{ accessFlags := 18, nameIndex := 11, descriptorIndex := 12, attributes := #[] }, { accessFlags := 18, nameIndex := 15, descriptorIndex := 16, attributes := #[] }, { accessFlags := 24, nameIndex := 62, descriptorIndex := 12, attributes := #[] }, { accessFlags := 24, nameIndex := 60, descriptorIndex := 61, attributes := #[] }])
  fields := #[{ name := "size", type := .long, accessFlags := 18, slot := 0, constantValue := 0 }, { name := "delete", type := .boolean, accessFlags := 18, slot := 1, constantValue := 0 }, { name := "KEY_BYTES", type := .long, accessFlags := 24, slot := 0, constantValue := 0 }, { name := "DELETE", type := (.object "com/example/strati/strati/sim/Entry"), accessFlags := 24, slot := 1, constantValue := 0 }]
  methods := #[k4m0, k4m1, k4m2]
  instanceTypes := #[.long, .boolean]
  staticTypes := #[.long, (.object "com/example/strati/strati/sim/Entry")]
  resolved := Array.replicate 107 none
  statics := none }

def pool5 : Array CpInfo := pool [(2, .class_ 4), (1, u "java/lang/Object"), (3, .class_ 10), (1, u "com/example/strati/strati/sim/SplitMix64"), (0, u "state"), (0, u "J"), (4, u "mix"), (0, u "(J)J"), (10, .long 13787848793156543929), (1, .long 10723151780598845931), (1, u "GAMMA")] 10

def k5c0 : Code := { maxStack := 5, maxLocals := 2, code := prog_54_method_5_code, exceptionTable := #[], attributes := #[] }
def k5m0 : Method := { name := "mix", desc := "(J)J", sig := { parameters := [.long], returnType := some .long }, accessFlags := 8, code := some k5c0 }
/-- com/example/strati/strati/sim/SplitMix64 -/
def k5 : Class := { plain "com/example/strati/strati/sim/SplitMix64" (some 0) with
  accessFlags := 48
  interfaces := #[]
  cf := some (fileOf pool5 8 #[] #[{ accessFlags := 8, nameIndex := 17, descriptorIndex := 18, attributes := #[] }] 48 2 #[] #[{ accessFlags := 26, nameIndex := 33, descriptorIndex := 12, attributes := #[] }, { accessFlags := 2, nameIndex := 11, descriptorIndex := 12, attributes := #[] }])
  fields := #[{ name := "GAMMA", type := .long, accessFlags := 26, slot := 0, constantValue := 0 }, { name := "state", type := .long, accessFlags := 2, slot := 0, constantValue := 0 }]
  methods := #[k5m0]
  instanceTypes := #[.long]
  staticTypes := #[.long]
  resolved := Array.replicate 44 none
  statics := none }

def pool6 : Array CpInfo := pool [(2, .class_ 4), (1, u "java/lang/Object"), (0, u "<init>"), (0, u "()V"), (1, .class_ 10), (1, u "com/example/strati/strati/sim/UnsignedKeys"), (0, u "sortInto"), (0, u "([JI[J[I)V"), (0, .methodref 14 15), (0, .class_ 16), (0, .nameAndType 17 18), (0, u "java/lang/System"), (0, u "arraycopy"), (0, u "(Ljava/lang/Object;ILjava/lang/Object;II)V"), (0, .methodref 8 20), (0, .nameAndType 21 22), (0, u "differingBits"), (0, u "([JII)I"), (23, .class_ 48), (1, u "java/lang/Long"), (10, .methodref 46 60), (0, .nameAndType 61 62), (0, u "numberOfLeadingZeros"), (0, u "(J)I"), (13, u "INSERTION_LIMIT"), (0, u "I"), (2, u "MAX_DIGIT_BITS")] 12

def k6m0 : Method := { name := "<init>", desc := "()V", sig := { parameters := [], returnType := none }, accessFlags := 2, code := none }
def k6c1 : Code := { maxStack := 5, maxLocals := 11, code := prog_59_method_3_code, exceptionTable := #[], attributes := #[] }
def k6m1 : Method := { name := "sortInto", desc := "([JI[J[I)V", sig := { parameters := [(.array .long), .int, (.array .long), (.array .int)], returnType := none }, accessFlags := 8, code := some k6c1 }
def k6c2 : Code := { maxStack := 6, maxLocals := 6, code := prog_59_method_8_code, exceptionTable := #[], attributes := #[] }
def k6m2 : Method := { name := "differingBits", desc := "([JII)I", sig := { parameters := [(.array .long), .int, .int], returnType := some .int }, accessFlags := 10, code := some k6c2 }
/-- com/example/strati/strati/sim/UnsignedKeys -/
def k6 : Class := { plain "com/example/strati/strati/sim/UnsignedKeys" (some 0) with
  accessFlags := 48
  interfaces := #[]
  cf := some (fileOf pool6 8 #[] #[{ accessFlags := 2, nameIndex := 5, descriptorIndex := 6, attributes := #[] }, { accessFlags := 8, nameIndex := 11, descriptorIndex := 12, attributes := #[] }, { accessFlags := 10, nameIndex := 21, descriptorIndex := 22, attributes := #[] }] 48 2 #[] #[{ accessFlags := 26, nameIndex := 76, descriptorIndex := 77, attributes := #[] }, { accessFlags := 26, nameIndex := 80, descriptorIndex := 77, attributes := #[] }])
  fields := #[{ name := "INSERTION_LIMIT", type := .int, accessFlags := 26, slot := 0, constantValue := 0 }, { name := "MAX_DIGIT_BITS", type := .int, accessFlags := 26, slot := 1, constantValue := 0 }]
  methods := #[k6m0, k6m1, k6m2]
  instanceTypes := #[]
  staticTypes := #[.int, .int]
  resolved := Array.replicate 93 none
  statics := none }

def pool7 : Array CpInfo := pool [(1, .class_ 2), (0, u "java/io/Serializable"), (0, .class_ 4), (0, u "java/lang/Object")] 2

/-- java/io/Serializable -/
def k7 : Class := { plain "java/io/Serializable" (some 0) with
  accessFlags := 1537
  interfaces := #[]
  cf := some (fileOf pool7 1 #[] #[] 1537 3 #[] #[])
  fields := #[]
  methods := #[]
  instanceTypes := #[]
  staticTypes := #[]
  resolved := Array.replicate 7 none
  statics := none }

def pool8 : Array CpInfo := pool [(2, .class_ 4), (1, u "java/lang/Object"), (0, u "<init>"), (0, u "()V"), (1, .class_ 10), (1, u "java/lang/Number"), (2, .class_ 14), (0, u "java/io/Serializable"), (0, u "serialVersionUID"), (0, u "J")] 20

def k8m0 : Method := { name := "<init>", desc := "()V", sig := { parameters := [], returnType := none }, accessFlags := 1, code := none }
/-- java/lang/Number -/
def k8 : Class := { plain "java/lang/Number" (some 0) with
  accessFlags := 1057
  interfaces := #[7]
  cf := some (fileOf pool8 8 #[] #[{ accessFlags := 1, nameIndex := 5, descriptorIndex := 6, attributes := #[] }] 1057 2 #[13] #[{ accessFlags := 26, nameIndex := 15, descriptorIndex := 16, attributes := #[] }])
  fields := #[{ name := "serialVersionUID", type := .long, accessFlags := 26, slot := 0, constantValue := 0 }]
  methods := #[k8m0]
  instanceTypes := #[]
  staticTypes := #[.long]
  resolved := Array.replicate 37 none
  statics := none }

def pool9 : Array CpInfo := pool [(1, .class_ 2), (0, u "java/lang/Comparable"), (0, .class_ 4), (0, u "java/lang/Object")] 7

/-- java/lang/Comparable -/
def k9 : Class := { plain "java/lang/Comparable" (some 0) with
  accessFlags := 1537
  interfaces := #[]
  cf := some (fileOf pool9 1 #[] #[] 1537 3 #[] #[])
  fields := #[]
  methods := #[]
  instanceTypes := #[]
  staticTypes := #[]
  resolved := Array.replicate 12 none
  statics := none }

def pool10 : Array CpInfo := pool [(1, .class_ 2), (0, u "java/lang/constant/Constable"), (0, .class_ 4), (0, u "java/lang/Object")] 6

/-- java/lang/constant/Constable -/
def k10 : Class := { plain "java/lang/constant/Constable" (some 0) with
  accessFlags := 1537
  interfaces := #[]
  cf := some (fileOf pool10 1 #[] #[] 1537 3 #[] #[])
  fields := #[]
  methods := #[]
  instanceTypes := #[]
  staticTypes := #[]
  resolved := Array.replicate 11 none
  statics := none }

def pool11 : Array CpInfo := pool [(1, .class_ 2), (0, u "java/lang/constant/ConstantDesc"), (0, .class_ 4), (0, u "java/lang/Object")] 32

/-- java/lang/constant/ConstantDesc -/
def k11 : Class := { plain "java/lang/constant/ConstantDesc" (some 0) with
  accessFlags := 1537
  interfaces := #[]
  cf := some (fileOf pool11 1 #[] #[] 1537 3 #[] #[])
  fields := #[]
  methods := #[]
  instanceTypes := #[]
  staticTypes := #[]
  resolved := Array.replicate 37 none
  statics := none }

def pool12 : Array CpInfo := pool [(1, .class_ 2), (0, u "java/lang/Long"), (15, .class_ 20), (1, u "java/lang/Integer"), (79, u "numberOfLeadingZeros"), (0, u "(J)I"), (66, .long 9223372036854775808), (66, .class_ 237), (1, u "java/lang/Long$LongCache"), (33, .class_ 272), (0, u "java/lang/Number"), (2, u "value"), (0, u "J"), (25, .methodref 1 303), (0, .nameAndType 304 305), (0, u "compare"), (0, u "(JJ)I"), (2, .methodref 18 309), (0, .nameAndType 100 310), (0, u "(I)I"), (50, u "TYPE"), (0, u "Ljava/lang/Class;"), (0, .class_ 364), (0, u "java/lang/Comparable"), (0, .class_ 366), (0, u "java/lang/constant/Constable"), (0, .class_ 368), (0, u "java/lang/constant/ConstantDesc"), (0, u "MIN_VALUE"), (1, u "MAX_VALUE"), (4, u "SIZE"), (0, u "I"), (1, u "BYTES"), (1, u "serialVersionUID"), (87, u "compareUnsigned")] 54

def k12c0 : Code := { maxStack := 4, maxLocals := 4, code := jdk_35_method_42_code, exceptionTable := #[], attributes := #[] }
def k12m0 : Method := { name := "compare", desc := "(JJ)I", sig := { parameters := [.long, .long], returnType := some .int }, accessFlags := 9, code := some k12c0 }
def k12c1 : Code := { maxStack := 6, maxLocals := 4, code := jdk_35_method_43_code, exceptionTable := #[], attributes := #[] }
def k12m1 : Method := { name := "compareUnsigned", desc := "(JJ)I", sig := { parameters := [.long, .long], returnType := some .int }, accessFlags := 9, code := some k12c1 }
def k12c2 : Code := { maxStack := 3, maxLocals := 3, code := jdk_35_method_48_code, exceptionTable := #[], attributes := #[] }
def k12m2 : Method := { name := "numberOfLeadingZeros", desc := "(J)I", sig := { parameters := [.long], returnType := some .int }, accessFlags := 9, code := some k12c2 }
/-- java/lang/Long -/
def k12 : Class := { plain "java/lang/Long" (some 8) with
  accessFlags := 49
  interfaces := #[9, 10, 11]
  cf := some (fileOf pool12 1 #[.nestMembers #[235]] #[{ accessFlags := 9, nameIndex := 304, descriptorIndex := 305, attributes := #[] }, { accessFlags := 9, nameIndex := 469, descriptorIndex := 305, attributes := #[] }, { accessFlags := 9, nameIndex := 100, descriptorIndex := 101, attributes := #[] }] 49 271 #[363, 365, 367] #[{ accessFlags := 25, nameIndex := 369, descriptorIndex := 276, attributes := #[] }, { accessFlags := 25, nameIndex := 371, descriptorIndex := 276, attributes := #[] }, { accessFlags := 25, nameIndex := 361, descriptorIndex := 362, attributes := #[] }, { accessFlags := 18, nameIndex := 275, descriptorIndex := 276, attributes := #[] }, { accessFlags := 25, nameIndex := 376, descriptorIndex := 377, attributes := #[] }, { accessFlags := 25, nameIndex := 379, descriptorIndex := 377, attributes := #[] }, { accessFlags := 26, nameIndex := 381, descriptorIndex := 276, attributes := #[] }])
  fields := #[{ name := "MIN_VALUE", type := .long, accessFlags := 25, slot := 0, constantValue := 0 }, { name := "MAX_VALUE", type := .long, accessFlags := 25, slot := 1, constantValue := 0 }, { name := "TYPE", type := (.object "java/lang/Class"), accessFlags := 25, slot := 2, constantValue := 0 }, { name := "value", type := .long, accessFlags := 18, slot := 0, constantValue := 0 }, { name := "SIZE", type := .int, accessFlags := 25, slot := 3, constantValue := 0 }, { name := "BYTES", type := .int, accessFlags := 25, slot := 4, constantValue := 0 }, { name := "serialVersionUID", type := .long, accessFlags := 26, slot := 5, constantValue := 0 }]
  methods := #[k12m0, k12m1, k12m2]
  instanceTypes := #[.long]
  staticTypes := #[.long, .long, (.object "java/lang/Class"), .int, .int, .long]
  resolved := Array.replicate 524 none
  statics := none }

def pool13 : Array CpInfo := pool [(1, .class_ 2), (0, u "java/lang/Integer"), (16, u "digits"), (0, u "[C"), (32, u "numberOfLeadingZeros"), (0, u "(I)I"), (30, u "DigitOnes"), (0, u "[B"), (2, u "DigitTens"), (99, .class_ 190), (0, u "java/lang/Integer$IntegerCache"), (3, u "I"), (8, .class_ 204), (0, u "java/lang/Number"), (2, u "value"), (94, u "TYPE"), (0, u "Ljava/lang/Class;"), (0, .class_ 305), (0, u "java/lang/Comparable"), (0, .class_ 307), (0, u "java/lang/constant/Constable"), (0, .class_ 309), (0, u "java/lang/constant/ConstantDesc"), (0, u "MIN_VALUE"), (1, u "MAX_VALUE"), (3, u "SIZE"), (1, u "BYTES"), (1, u "serialVersionUID"), (0, u "J")] 131

def k13c0 : Code := { maxStack := 3, maxLocals := 2, code := jdk_33_method_47_code, exceptionTable := #[], attributes := #[] }
def k13m0 : Method := { name := "numberOfLeadingZeros", desc := "(I)I", sig := { parameters := [.int], returnType := some .int }, accessFlags := 9, code := some k13c0 }
/-- java/lang/Integer -/
def k13 : Class := { plain "java/lang/Integer" (some 8) with
  accessFlags := 49
  interfaces := #[9, 10, 11]
  cf := some (fileOf pool13 1 #[.nestMembers #[189]] #[{ accessFlags := 9, nameIndex := 53, descriptorIndex := 54, attributes := #[] }] 49 203 #[304, 306, 308] #[{ accessFlags := 25, nameIndex := 310, descriptorIndex := 194, attributes := #[] }, { accessFlags := 25, nameIndex := 312, descriptorIndex := 194, attributes := #[] }, { accessFlags := 25, nameIndex := 302, descriptorIndex := 303, attributes := #[] }, { accessFlags := 24, nameIndex := 19, descriptorIndex := 20, attributes := #[] }, { accessFlags := 24, nameIndex := 89, descriptorIndex := 86, attributes := #[] }, { accessFlags := 24, nameIndex := 85, descriptorIndex := 86, attributes := #[] }, { accessFlags := 18, nameIndex := 207, descriptorIndex := 194, attributes := #[] }, { accessFlags := 25, nameIndex := 316, descriptorIndex := 194, attributes := #[] }, { accessFlags := 25, nameIndex := 318, descriptorIndex := 194, attributes := #[] }, { accessFlags := 26, nameIndex := 320, descriptorIndex := 321, attributes := #[] }])
  fields := #[{ name := "MIN_VALUE", type := .int, accessFlags := 25, slot := 0, constantValue := 0 }, { name := "MAX_VALUE", type := .int, accessFlags := 25, slot := 1, constantValue := 0 }, { name := "TYPE", type := (.object "java/lang/Class"), accessFlags := 25, slot := 2, constantValue := 0 }, { name := "digits", type := (.array .char), accessFlags := 24, slot := 3, constantValue := 0 }, { name := "DigitTens", type := (.array .byte), accessFlags := 24, slot := 4, constantValue := 0 }, { name := "DigitOnes", type := (.array .byte), accessFlags := 24, slot := 5, constantValue := 0 }, { name := "value", type := .int, accessFlags := 18, slot := 0, constantValue := 0 }, { name := "SIZE", type := .int, accessFlags := 25, slot := 6, constantValue := 0 }, { name := "BYTES", type := .int, accessFlags := 25, slot := 7, constantValue := 0 }, { name := "serialVersionUID", type := .long, accessFlags := 26, slot := 8, constantValue := 0 }]
  methods := #[k13m0]
  instanceTypes := #[.int]
  staticTypes := #[.int, .int, (.object "java/lang/Class"), (.array .char), (.array .byte), (.array .byte), .int, .int, .long]
  resolved := Array.replicate 453 none
  statics := none }

def pool14 : Array CpInfo := pool [(2, .class_ 4), (1, u "java/lang/Object"), (0, u "<init>"), (0, u "()V"), (1, .class_ 10), (1, u "java/lang/System"), (0, u "allowSecurityManager"), (0, u "I"), (16, u "cons"), (0, u "Ljava/io/Console;"), (77, .class_ 110), (1, u "java/lang/System$CallersHolder"), (43, u "initialErrStream"), (0, u "Ljava/io/PrintStream;"), (19, u "security"), (0, u "Ljava/lang/SecurityManager;"), (31, .class_ 209), (0, u "java/lang/System$1"), (7, u "props"), (0, u "Ljava/util/Properties;"), (2, u "lineSeparator"), (0, u "Ljava/lang/String;"), (96, .class_ 321), (1, u "java/lang/System$LoggerFinder"), (5, .class_ 328), (0, u "java/lang/System$Logger"), (67, u "err"), (2, u "out"), (91, u "notSupportedJnuEncoding"), (15, u "in"), (17, u "initialIn"), (0, u "Ljava/io/InputStream;"), (35, u "bootLayer"), (0, u "Ljava/lang/ModuleLayer;"), (99, .class_ 664), (0, u "java/lang/System$2"), (9, u "NEVER"), (2, u "MAYBE"), (49, u "arraycopy"), (0, u "(Ljava/lang/Object;ILjava/lang/Object;II)V"), (72, .class_ 802), (0, u "java/lang/System$Logger$Level")] 31

def k14m0 : Method := { name := "<init>", desc := "()V", sig := { parameters := [], returnType := none }, accessFlags := 2, code := none }
def k14m1 : Method := { name := "arraycopy", desc := "(Ljava/lang/Object;ILjava/lang/Object;II)V", sig := { parameters := [(.object "java/lang/Object"), .int, (.object "java/lang/Object"), .int, .int], returnType := none }, accessFlags := 265, code := none }
/-- java/lang/System -/
def k14 : Class := { plain "java/lang/System" (some 0) with
  accessFlags := 49
  interfaces := #[]
  cf := some (fileOf pool14 8 #[.nestMembers #[319, 327, 801, 108, 663, 208]] #[{ accessFlags := 2, nameIndex := 5, descriptorIndex := 6, attributes := #[] }, { accessFlags := 265, nameIndex := 727, descriptorIndex := 728, attributes := #[] }] 49 2 #[] #[{ accessFlags := 25, nameIndex := 507, descriptorIndex := 526, attributes := #[] }, { accessFlags := 25, nameIndex := 399, descriptorIndex := 155, attributes := #[] }, { accessFlags := 25, nameIndex := 396, descriptorIndex := 155, attributes := #[] }, { accessFlags := 10, nameIndex := 525, descriptorIndex := 526, attributes := #[] }, { accessFlags := 26, nameIndex := 674, descriptorIndex := 12, attributes := #[] }, { accessFlags := 26, nameIndex := 677, descriptorIndex := 12, attributes := #[] }, { accessFlags := 10, nameIndex := 11, descriptorIndex := 12, attributes := #[] }, { accessFlags := 74, nameIndex := 175, descriptorIndex := 176, attributes := #[] }, { accessFlags := 10, nameIndex := 491, descriptorIndex := 222, attributes := #[] }, { accessFlags := 74, nameIndex := 29, descriptorIndex := 30, attributes := #[] }, { accessFlags := 74, nameIndex := 154, descriptorIndex := 155, attributes := #[] }, { accessFlags := 10, nameIndex := 217, descriptorIndex := 218, attributes := #[] }, { accessFlags := 10, nameIndex := 221, descriptorIndex := 222, attributes := #[] }, { accessFlags := 8, nameIndex := 562, descriptorIndex := 563, attributes := #[] }])
  fields := #[{ name := "in", type := (.object "java/io/InputStream"), accessFlags := 25, slot := 0, constantValue := 0 }, { name := "out", type := (.object "java/io/PrintStream"), accessFlags := 25, slot := 1, constantValue := 0 }, { name := "err", type := (.object "java/io/PrintStream"), accessFlags := 25, slot := 2, constantValue := 0 }, { name := "initialIn", type := (.object "java/io/InputStream"), accessFlags := 10, slot := 3, constantValue := 0 }, { name := "NEVER", type := .int, accessFlags := 26, slot := 4, constantValue := 0 }, { name := "MAYBE", type := .int, accessFlags := 26, slot := 5, constantValue := 0 }, { name := "allowSecurityManager", type := .int, accessFlags := 10, slot := 6, constantValue := 0 }, { name := "security", type := (.object "java/lang/SecurityManager"), accessFlags := 74, slot := 7, constantValue := 0 }, { name := "notSupportedJnuEncoding", type := (.object "java/lang/String"), accessFlags := 10, slot := 8, constantValue := 0 }, { name := "cons", type := (.object "java/io/Console"), accessFlags := 74, slot := 9, constantValue := 0 }, { name := "initialErrStream", type := (.object "java/io/PrintStream"), accessFlags := 74, slot := 10, constantValue := 0 }, { name := "props", type := (.object "java/util/Properties"), accessFlags := 10, slot := 11, constantValue := 0 }, { name := "lineSeparator", type := (.object "java/lang/String"), accessFlags := 10, slot := 12, constantValue := 0 }, { name := "bootLayer", type := (.object "java/lang/ModuleLayer"), accessFlags := 8, slot := 13, constantValue := 0 }]
  methods := #[k14m0, k14m1]
  instanceTypes := #[]
  staticTypes := #[(.object "java/io/InputStream"), (.object "java/io/PrintStream"), (.object "java/io/PrintStream"), (.object "java/io/InputStream"), .int, .int, .int, (.object "java/lang/SecurityManager"), (.object "java/lang/String"), (.object "java/io/Console"), (.object "java/io/PrintStream"), (.object "java/util/Properties"), (.object "java/lang/String"), (.object "java/lang/ModuleLayer")]
  resolved := Array.replicate 834 none
  statics := none }

def pool15 : Array CpInfo := pool [(1, .methodref 2 3), (0, .class_ 4), (0, .nameAndType 5 6), (0, u "java/lang/Object"), (0, u "<init>"), (0, u "()V"), (6, .fieldref 14 15), (0, .class_ 16), (0, .nameAndType 17 18), (0, u "com/example/strati/strati/sim/RunEntries"), (0, u "keys"), (0, u "[J"), (0, .fieldref 14 20), (0, .nameAndType 21 18), (0, u "sizes"), (0, .fieldref 14 23), (0, .nameAndType 24 25), (0, u "entrySize"), (0, u "J"), (3, .fieldref 14 30), (0, .nameAndType 31 32), (0, u "deletes"), (0, u "[Z"), (0, .fieldref 14 34), (0, .nameAndType 35 25), (0, u "size"), (0, .fieldref 14 37), (0, .nameAndType 38 39), (0, u "markers"), (0, u "I"), (1, .class_ 43), (1, u "java/util/Optional"), (2, .class_ 47), (0, u "com/example/strati/strati/model/KeyRange"), (0, .methodref 46 49), (0, .nameAndType 5 50), (0, u "(JJ)V"), (0, .methodref 41 52), (0, .nameAndType 53 54), (0, u "of"), (0, u "(Ljava/lang/Object;)Ljava/util/Optional;"), (0, .fieldref 14 56), (0, .nameAndType 57 58), (0, u "keyRange"), (0, u "Ljava/util/Optional;"), (0, .methodref 14 60), (0, .nameAndType 5 61), (0, u "([J[JJ[ZI)V"), (4, u "()I"), (10, u "count"), (67, u "inKeyOrder"), (0, u "([J[JJ[ZI)Lcom/example/strati/strati/sim/RunEntries;"), (6, u "()J")] 6

def k15c0 : Code := { maxStack := 8, maxLocals := 11, code := prog_49_method_1_code, exceptionTable := #[], attributes := #[] }
def k15m0 : Method := { name := "<init>", desc := "([J[JJ[ZI)V", sig := { parameters := [(.array .long), (.array .long), .long, (.array .boolean), .int], returnType := none }, accessFlags := 2, code := some k15c0 }
def k15c1 : Code := { maxStack := 8, maxLocals := 6, code := prog_49_method_2_code, exceptionTable := #[], attributes := #[] }
def k15m1 : Method := { name := "inKeyOrder", desc := "([J[JJ[ZI)Lcom/example/strati/strati/sim/RunEntries;", sig := { parameters := [(.array .long), (.array .long), .long, (.array .boolean), .int], returnType := some (.object "com/example/strati/strati/sim/RunEntries") }, accessFlags := 8, code := some k15c1 }
def k15c2 : Code := { maxStack := 1, maxLocals := 1, code := prog_49_method_5_code, exceptionTable := #[], attributes := #[] }
def k15m2 : Method := { name := "count", desc := "()I", sig := { parameters := [], returnType := some .int }, accessFlags := 0, code := some k15c2 }
def k15c3 : Code := { maxStack := 2, maxLocals := 1, code := prog_49_method_6_code, exceptionTable := #[], attributes := #[] }
def k15m3 : Method := { name := "size", desc := "()J", sig := { parameters := [], returnType := some .long }, accessFlags := 0, code := some k15c3 }
/-- com/example/strati/strati/sim/RunEntries -/
def k15 : Class := { plain "com/example/strati/strati/sim/RunEntries" (some 0) with
  accessFlags := 48
  interfaces := #[]
  cf := some (fileOf pool15 14 #[] #[{ accessFlags := 2, nameIndex := 5, descriptorIndex := 61, attributes := #[] }, { accessFlags := 8, nameIndex := 145, descriptorIndex := 146, attributes := #[] }, { accessFlags := 0, nameIndex := 77, descriptorIndex := 66, attributes := #[] }, { accessFlags := 0, nameIndex := 35, descriptorIndex := 153, attributes := #[] }] 48 2 #[] #[{ accessFlags := 18, nameIndex := 17, descriptorIndex := 18, attributes := #[] }, { accessFlags := 18, nameIndex := 21, descriptorIndex := 18, attributes := #[] }, { accessFlags := 18, nameIndex := 24, descriptorIndex := 25, attributes := #[] }, { accessFlags := 18, nameIndex := 31, descriptorIndex := 32, attributes := #[] }, { accessFlags := 18, nameIndex := 35, descriptorIndex := 25, attributes := #[] }, { accessFlags := 18, nameIndex := 38, descriptorIndex := 39, attributes := #[] }, { accessFlags := 18, nameIndex := 57, descriptorIndex := 58, attributes := #[] }])
  fields := #[{ name := "keys", type := (.array .long), accessFlags := 18, slot := 0, constantValue := 0 }, { name := "sizes", type := (.array .long), accessFlags := 18, slot := 1, constantValue := 0 }, { name := "entrySize", type := .long, accessFlags := 18, slot := 2, constantValue := 0 }, { name := "deletes", type := (.array .boolean), accessFlags := 18, slot := 3, constantValue := 0 }, { name := "size", type := .long, accessFlags := 18, slot := 4, constantValue := 0 }, { name := "markers", type := .int, accessFlags := 18, slot := 5, constantValue := 0 }, { name := "keyRange", type := (.object "java/util/Optional"), accessFlags := 18, slot := 6, constantValue := 0 }]
  methods := #[k15m0, k15m1, k15m2, k15m3]
  instanceTypes := #[(.array .long), (.array .long), .long, (.array .boolean), .long, .int, (.object "java/util/Optional")]
  staticTypes := #[]
  resolved := Array.replicate 160 none
  statics := none }

def pool16 : Array CpInfo := pool [(1, .methodref 2 3), (0, .class_ 4), (0, .nameAndType 5 6), (0, u "java/lang/Record"), (0, u "<init>"), (0, u "()V"), (0, .methodref 8 9), (0, .class_ 10), (0, .nameAndType 11 12), (0, u "java/lang/Long"), (0, u "compareUnsigned"), (0, u "(JJ)I"), (13, .fieldref 27 28), (0, .class_ 29), (0, .nameAndType 30 31), (0, u "com/example/strati/strati/model/KeyRange"), (0, u "min"), (0, u "J"), (0, .fieldref 27 33), (0, .nameAndType 34 31), (0, u "max"), (38, u "(JJ)V")] 44

def k16c0 : Code := { maxStack := 5, maxLocals := 5, code := prog_23_method_1_code, exceptionTable := #[], attributes := #[] }
def k16m0 : Method := { name := "<init>", desc := "(JJ)V", sig := { parameters := [.long, .long], returnType := none }, accessFlags := 1, code := some k16c0 }
/-- com/example/strati/strati/model/KeyRange -/
def k16 : Class := { plain "com/example/strati/strati/model/KeyRange" (some 3) with
  accessFlags := 49
  interfaces := #[]
  cf := some (fileOf pool16 27 #[] #[{ accessFlags := 1, nameIndex := 5, descriptorIndex := 73, attributes := #[] }] 49 2 #[] #[{ accessFlags := 18, nameIndex := 30, descriptorIndex := 31, attributes := #[] }, { accessFlags := 18, nameIndex := 34, descriptorIndex := 31, attributes := #[] }])
  fields := #[{ name := "min", type := .long, accessFlags := 18, slot := 0, constantValue := 0 }, { name := "max", type := .long, accessFlags := 18, slot := 1, constantValue := 0 }]
  methods := #[k16m0]
  instanceTypes := #[.long, .long]
  staticTypes := #[]
  resolved := Array.replicate 118 none
  statics := none }

def pool17 : Array CpInfo := pool [(2, .class_ 4), (1, u "java/util/Optional"), (0, u "EMPTY"), (0, u "Ljava/util/Optional;"), (0, .methodref 8 9), (0, .class_ 10), (0, .nameAndType 11 12), (0, u "java/lang/Object"), (0, u "<init>"), (0, u "()V"), (0, .fieldref 2 14), (0, .nameAndType 15 16), (0, u "value"), (0, u "Ljava/lang/Object;"), (0, .methodref 18 19), (0, .class_ 20), (0, .nameAndType 21 22), (0, u "java/util/Objects"), (0, u "requireNonNull"), (0, u "(Ljava/lang/Object;)Ljava/lang/Object;"), (0, .methodref 2 24), (0, .nameAndType 11 25), (0, u "(Ljava/lang/Object;)V"), (39, u "(Ljava/lang/Object;)Ljava/util/Optional;"), (16, u "of")] 104

def k17c0 : Code := { maxStack := 2, maxLocals := 2, code := jdk_32_method_2_code, exceptionTable := #[], attributes := #[] }
def k17m0 : Method := { name := "<init>", desc := "(Ljava/lang/Object;)V", sig := { parameters := [(.object "java/lang/Object")], returnType := none }, accessFlags := 2, code := some k17c0 }
def k17c1 : Code := { maxStack := 3, maxLocals := 1, code := jdk_32_method_3_code, exceptionTable := #[], attributes := #[] }
def k17m1 : Method := { name := "of", desc := "(Ljava/lang/Object;)Ljava/util/Optional;", sig := { parameters := [(.object "java/lang/Object")], returnType := some (.object "java/util/Optional") }, accessFlags := 9, code := some k17c1 }
/-- java/util/Optional -/
def k17 : Class := { plain "java/util/Optional" (some 0) with
  accessFlags := 49
  interfaces := #[]
  cf := some (fileOf pool17 2 #[] #[{ accessFlags := 2, nameIndex := 11, descriptorIndex := 25, attributes := #[] }, { accessFlags := 9, nameIndex := 82, descriptorIndex := 65, attributes := #[] }] 49 8 #[] #[{ accessFlags := 26, nameIndex := 5, descriptorIndex := 6, attributes := #[] }, { accessFlags := 18, nameIndex := 15, descriptorIndex := 16, attributes := #[] }])
  fields := #[{ name := "EMPTY", type := (.object "java/util/Optional"), accessFlags := 26, slot := 0, constantValue := 0 }, { name := "value", type := (.object "java/lang/Object"), accessFlags := 18, slot := 0, constantValue := 0 }]
  methods := #[k17m0, k17m1]
  instanceTypes := #[(.object "java/lang/Object")]
  staticTypes := #[(.object "java/util/Optional")]
  resolved := Array.replicate 187 none
  statics := none }

def pool18 : Array CpInfo := pool [(2, .class_ 4), (1, u "java/lang/Object"), (0, u "<init>"), (0, u "()V"), (35, .class_ 44), (1, u "java/util/Objects"), (0, u "requireNonNull"), (0, u "(Ljava/lang/Object;)Ljava/lang/Object;")] 137

def k18m0 : Method := { name := "<init>", desc := "()V", sig := { parameters := [], returnType := none }, accessFlags := 2, code := none }
def k18c1 : Code := { maxStack := 2, maxLocals := 1, code := jdk_31_method_10_code, exceptionTable := #[], attributes := #[] }
def k18m1 : Method := { name := "requireNonNull", desc := "(Ljava/lang/Object;)Ljava/lang/Object;", sig := { parameters := [(.object "java/lang/Object")], returnType := some (.object "java/lang/Object") }, accessFlags := 9, code := some k18c1 }
/-- java/util/Objects -/
def k18 : Class := { plain "java/util/Objects" (some 0) with
  accessFlags := 49
  interfaces := #[]
  cf := some (fileOf pool18 42 #[] #[{ accessFlags := 2, nameIndex := 5, descriptorIndex := 6, attributes := #[] }, { accessFlags := 9, nameIndex := 45, descriptorIndex := 46, attributes := #[] }] 49 2 #[] #[])
  fields := #[]
  methods := #[k18m0, k18m1]
  instanceTypes := #[]
  staticTypes := #[]
  resolved := Array.replicate 184 none
  statics := none }

def pool19 : Array CpInfo := pool [(1, u "java/lang/Cloneable"), (0, .class_ 1), (0, u "java/lang/Object"), (0, .class_ 3)] 3

/-- java/lang/Cloneable -/
def k19 : Class := { plain "java/lang/Cloneable" (some 0) with
  accessFlags := 1537
  interfaces := #[]
  cf := some (fileOf pool19 2 #[] #[] 1537 4 #[] #[])
  fields := #[]
  methods := #[]
  instanceTypes := #[]
  staticTypes := #[]
  resolved := Array.replicate 8 none
  statics := none }

/-- the primitive boolean -/
def k20 : Class := { plain "boolean" none with kind := .primitive 'Z', accessFlags := 0x411 }
/-- [Z -/
def k21 : Class := { plain "[Z" (some 0) with kind := .array 20 .boolean, interfaces := #[19, 7], accessFlags := 1041 }

/-- the primitive byte -/
def k22 : Class := { plain "byte" none with kind := .primitive 'B', accessFlags := 0x411 }
/-- [B -/
def k23 : Class := { plain "[B" (some 0) with kind := .array 22 .byte, interfaces := #[19, 7], accessFlags := 1041 }

/-- the primitive int -/
def k24 : Class := { plain "int" none with kind := .primitive 'I', accessFlags := 0x411 }
/-- [I -/
def k25 : Class := { plain "[I" (some 0) with kind := .array 24 .int, interfaces := #[19, 7], accessFlags := 1041 }

/-- the primitive long -/
def k26 : Class := { plain "long" none with kind := .primitive 'J', accessFlags := 0x411 }
/-- [J -/
def k27 : Class := { plain "[J" (some 0) with kind := .array 26 .long, interfaces := #[19, 7], accessFlags := 1041 }

def heap : Heap := #[]
def classes : Array Class := #[k0, k1, k2, k3, k4, k5, k6, k7, k8, k9, k10, k11, k12, k13, k14, k15, k16, k17, k18, k19, k20, k21, k22, k23, k24, k25, k26, k27]
def interned : List (Array UInt16 × Addr) := []
def slotsUsed : Nat := 0
def theMethod : MethodId := ⟨1, 1⟩
def args0 : Array Value := #[.long 1, .long 2, .long 3, .long 4, .long 5, .int 15]
def aboutOver (below : List Frame) : State where
  vm := { classes := classes, interned := interned.toArray }
  heap := heap
  slotsUsed := slotsUsed
  threads := #[{ frames := .invoking theMethod args0 :: below }]
def below0 : List Frame := [.native { method := ⟨0, 0⟩, args := #[] }]
def about1 : State := aboutOver below0
def p0 : Program := .bare "" "" ""
def e0 : Env := launch0.env 0 0 0
theorem w_frames : about1.frames = Frame.invoking theMethod args0 :: below0 := rfl
set_option maxRecDepth 65536 in
theorem w_args : argsFit about1.vm theMethod args0 = true := by decide +kernel
set_option maxRecDepth 65536 in
theorem w_heap : heapFits about1 = true := by decide +kernel
set_option maxRecDepth 65536 in
theorem w_runnable : about1.curStatus? = some .runnable := by decide +kernel
set_option maxRecDepth 65536 in
theorem w_alone : about1.alone = true := by decide +kernel
set_option maxRecDepth 65536 in
theorem w_named : about1.methodNamed? x = some theMethod := by decide +kernel
set_option maxRecDepth 65536 in
theorem w_hears : about1.hears theMethod below0 = true := by decide +kernel
set_option maxRecDepth 65536 in
theorem w_ripe : about1.ripe theMethod args0 below0 = true := by decide +kernel
theorem w_running : about1.status = .running := rfl
set_option maxRecDepth 65536 in
theorem w_room : about1.hasRoom e0.platform room_1 = true :=
  launch0.hasRoom_least _ room_1 (by decide +kernel) (by decide +kernel) (by decide +kernel) (by decide +kernel) (by decide +kernel) (by decide +kernel)
theorem allAtoms_all (ts : List Jvm.Cond) (a : Array Jvm.Value) (st : Jvm.State) : (allAtoms ts).before a st = ts.all (fun c => c.before a st) := by
  induction ts with
  | nil => rfl
  | cons c t ih =>
    show (Jvm.Cond.and c (allAtoms t)).before a st = _
    rw [Jvm.Cond.before_and, ih, List.all_cons]
def words1 : List Jvm.Cond := Jvm.Cond.code x code maxLocals ret :: tables_1
/-- a 'code' word, met by the world's own term for the bytes: nothing is compared byte by byte -/
theorem code_word {y : MethodName} {bytes : ByteArray} {mx : Nat} {rt : Option FieldType} {a : Array Value} {s : State} {m : MethodId} {meth : Method} {c : Code} (h1 : s.methodNamed? y = some m) (h2 : s.vm.method? m = some meth) (h3 : meth.code = some c) (h4 : c.code = bytes)
    (h5 : (c.maxLocals == mx && c.exceptionTable.isEmpty && decide (c.maxStack ≤ mostOperands) && decide (meth.sig.returnType = rt) && !meth.locks && decide (parseMethodDescriptor y.desc = some meth.sig)) = true) : (Jvm.Cond.code y bytes mx rt).before a s = true := by
  simp only [Bool.and_eq_true, beq_iff_eq, Bool.not_eq_true', decide_eq_true_eq] at h5
  obtain ⟨⟨⟨⟨⟨g1, g2⟩, g3⟩, g4⟩, g5⟩, g6⟩ := h5
  simp [Cond.before, Cond.holds, Cond.value, h1, h2, h3, h4, g1, g2, g3, g4, g5, g6]
def isCode : Jvm.Cond → Bool
  | .code _ _ _ _ => true
  | _ => false
theorem all_split {L : List Jvm.Cond} {P : Jvm.Cond → Bool} (h1 : L.all (fun c => isCode c || P c) = true) (h2 : ∀ c ∈ L.filter isCode, P c = true) : L.all P = true := by
  refine List.all_eq_true.mpr fun c hc => ?_
  have h := List.all_eq_true.mp h1 c hc
  rcases Bool.eq_false_or_eq_true (isCode c) with hi | hi
  · exact h2 c (List.mem_filter.mpr ⟨hc, hi⟩)
  · simpa [hi] using h
set_option maxRecDepth 65536 in
theorem w_c0 : (Jvm.Cond.code x code maxLocals ret).before args0 about1 = true := code_word (m := ⟨1, 1⟩) (meth := k1m1) (c := k1c1) (by decide +kernel) rfl rfl rfl (by decide +kernel)
set_option maxRecDepth 65536 in
theorem w_c1 : (Jvm.Cond.code ({ cls := "com/example/strati/strati/sim/WriteBuffer", name := "<init>", desc := "()V" } : Jvm.MethodName) prog_67_method_1_code (1 : Nat) (Option.none : Option Jvm.ClassFile.FieldType)).before args0 about1 = true := code_word (m := ⟨2, 0⟩) (meth := k2m0) (c := k2c0) (by decide +kernel) rfl rfl rfl (by decide +kernel)
set_option maxRecDepth 65536 in
theorem w_c2 : (Jvm.Cond.code ({ cls := "java/lang/Object", name := "<init>", desc := "()V" } : Jvm.MethodName) object_method_1_code (1 : Nat) (Option.none : Option Jvm.ClassFile.FieldType)).before args0 about1 = true := code_word (m := ⟨0, 0⟩) (meth := k0m0) (c := k0c0) (by decide +kernel) rfl rfl rfl (by decide +kernel)
set_option maxRecDepth 65536 in
theorem w_c3 : (Jvm.Cond.code ({ cls := "com/example/strati/strati/sim/Entry", name := "<init>", desc := "(JZ)V" } : Jvm.MethodName) prog_35_method_1_code (4 : Nat) (Option.none : Option Jvm.ClassFile.FieldType)).before args0 about1 = true := code_word (m := ⟨4, 0⟩) (meth := k4m0) (c := k4c0) (by decide +kernel) rfl rfl rfl (by decide +kernel)
set_option maxRecDepth 65536 in
theorem w_c4 : (Jvm.Cond.code ({ cls := "java/lang/Record", name := "<init>", desc := "()V" } : Jvm.MethodName) jdk_30_method_1_code (1 : Nat) (Option.none : Option Jvm.ClassFile.FieldType)).before args0 about1 = true := code_word (m := ⟨3, 0⟩) (meth := k3m0) (c := k3c0) (by decide +kernel) rfl rfl rfl (by decide +kernel)
set_option maxRecDepth 65536 in
theorem w_c5 : (Jvm.Cond.code ({ cls := "com/example/strati/strati/sim/WriteBuffer", name := "put", desc := "(JLcom/example/strati/strati/sim/Entry;)V" } : Jvm.MethodName) prog_67_method_2_code (4 : Nat) (Option.none : Option Jvm.ClassFile.FieldType)).before args0 about1 = true := code_word (m := ⟨2, 1⟩) (meth := k2m1) (c := k2c1) (by decide +kernel) rfl rfl rfl (by decide +kernel)
set_option maxRecDepth 65536 in
theorem w_c6 : (Jvm.Cond.code ({ cls := "com/example/strati/strati/sim/Entry", name := "size", desc := "()J" } : Jvm.MethodName) prog_35_method_6_code (1 : Nat) (Option.some Jvm.ClassFile.FieldType.long)).before args0 about1 = true := code_word (m := ⟨4, 1⟩) (meth := k4m1) (c := k4c1) (by decide +kernel) rfl rfl rfl (by decide +kernel)
set_option maxRecDepth 65536 in
theorem w_c7 : (Jvm.Cond.code ({ cls := "com/example/strati/strati/sim/Entry", name := "delete", desc := "()Z" } : Jvm.MethodName) prog_35_method_7_code (1 : Nat) (Option.some Jvm.ClassFile.FieldType.boolean)).before args0 about1 = true := code_word (m := ⟨4, 2⟩) (meth := k4m2) (c := k4c2) (by decide +kernel) rfl rfl rfl (by decide +kernel)
set_option maxRecDepth 65536 in
theorem w_c8 : (Jvm.Cond.code ({ cls := "com/example/strati/strati/sim/WriteBuffer", name := "clear", desc := "()V" } : Jvm.MethodName) prog_67_method_7_code (1 : Nat) (Option.none : Option Jvm.ClassFile.FieldType)).before args0 about1 = true := code_word (m := ⟨2, 5⟩) (meth := k2m5) (c := k2c5) (by decide +kernel) rfl rfl rfl (by decide +kernel)
set_option maxRecDepth 65536 in
theorem w_c9 : (Jvm.Cond.code ({ cls := "com/example/strati/strati/sim/WriteBuffer", name := "isEmpty", desc := "()Z" } : Jvm.MethodName) prog_67_method_5_code (1 : Nat) (Option.some Jvm.ClassFile.FieldType.boolean)).before args0 about1 = true := code_word (m := ⟨2, 3⟩) (meth := k2m3) (c := k2c3) (by decide +kernel) rfl rfl rfl (by decide +kernel)
set_option maxRecDepth 65536 in
theorem w_c10 : (Jvm.Cond.code ({ cls := "com/example/strati/strati/sim/WriteBuffer", name := "holds", desc := "(J)Z" } : Jvm.MethodName) prog_67_method_4_code (3 : Nat) (Option.some Jvm.ClassFile.FieldType.boolean)).before args0 about1 = true := code_word (m := ⟨2, 2⟩) (meth := k2m2) (c := k2c2) (by decide +kernel) rfl rfl rfl (by decide +kernel)
set_option maxRecDepth 65536 in
theorem w_c11 : (Jvm.Cond.code ({ cls := "com/example/strati/strati/sim/WriteBuffer", name := "buildIndex", desc := "()V" } : Jvm.MethodName) prog_67_method_8_code (3 : Nat) (Option.none : Option Jvm.ClassFile.FieldType)).before args0 about1 = true := code_word (m := ⟨2, 6⟩) (meth := k2m6) (c := k2c6) (by decide +kernel) rfl rfl rfl (by decide +kernel)
set_option maxRecDepth 65536 in
theorem w_c12 : (Jvm.Cond.code ({ cls := "com/example/strati/strati/sim/WriteBuffer", name := "slot", desc := "([IJ)I" } : Jvm.MethodName) prog_67_method_11_code (6 : Nat) (Option.some Jvm.ClassFile.FieldType.int)).before args0 about1 = true := code_word (m := ⟨2, 8⟩) (meth := k2m8) (c := k2c8) (by decide +kernel) rfl rfl rfl (by decide +kernel)
set_option maxRecDepth 65536 in
theorem w_c13 : (Jvm.Cond.code ({ cls := "com/example/strati/strati/sim/SplitMix64", name := "mix", desc := "(J)J" } : Jvm.MethodName) prog_54_method_5_code (2 : Nat) (Option.some Jvm.ClassFile.FieldType.long)).before args0 about1 = true := code_word (m := ⟨5, 0⟩) (meth := k5m0) (c := k5c0) (by decide +kernel) rfl rfl rfl (by decide +kernel)
set_option maxRecDepth 65536 in
theorem w_c14 : (Jvm.Cond.code ({ cls := "com/example/strati/strati/sim/WriteBuffer", name := "index", desc := "(I)V" } : Jvm.MethodName) prog_67_method_9_code (5 : Nat) (Option.none : Option Jvm.ClassFile.FieldType)).before args0 about1 = true := code_word (m := ⟨2, 7⟩) (meth := k2m7) (c := k2c7) (by decide +kernel) rfl rfl rfl (by decide +kernel)
set_option maxRecDepth 65536 in
theorem w_c15 : (Jvm.Cond.code ({ cls := "com/example/strati/strati/sim/WriteBuffer", name := "entries", desc := "()Lcom/example/strati/strati/sim/RunEntries;" } : Jvm.MethodName) prog_67_method_6_code (7 : Nat) (Option.some (Jvm.ClassFile.FieldType.object "com/example/strati/strati/sim/RunEntries"))).before args0 about1 = true := code_word (m := ⟨2, 4⟩) (meth := k2m4) (c := k2c4) (by decide +kernel) rfl rfl rfl (by decide +kernel)
set_option maxRecDepth 65536 in
theorem w_c16 : (Jvm.Cond.code ({ cls := "com/example/strati/strati/sim/UnsignedKeys", name := "sortInto", desc := "([JI[J[I)V" } : Jvm.MethodName) prog_59_method_3_code (11 : Nat) (Option.none : Option Jvm.ClassFile.FieldType)).before args0 about1 = true := code_word (m := ⟨6, 1⟩) (meth := k6m1) (c := k6c1) (by decide +kernel) rfl rfl rfl (by decide +kernel)
set_option maxRecDepth 65536 in
theorem w_c17 : (Jvm.Cond.code ({ cls := "com/example/strati/strati/sim/UnsignedKeys", name := "differingBits", desc := "([JII)I" } : Jvm.MethodName) prog_59_method_8_code (6 : Nat) (Option.some Jvm.ClassFile.FieldType.int)).before args0 about1 = true := code_word (m := ⟨6, 2⟩) (meth := k6m2) (c := k6c2) (by decide +kernel) rfl rfl rfl (by decide +kernel)
set_option maxRecDepth 65536 in
theorem w_c18 : (Jvm.Cond.code ({ cls := "java/lang/Long", name := "numberOfLeadingZeros", desc := "(J)I" } : Jvm.MethodName) jdk_35_method_48_code (3 : Nat) (Option.some Jvm.ClassFile.FieldType.int)).before args0 about1 = true := code_word (m := ⟨12, 2⟩) (meth := k12m2) (c := k12c2) (by decide +kernel) rfl rfl rfl (by decide +kernel)
set_option maxRecDepth 65536 in
theorem w_c19 : (Jvm.Cond.code ({ cls := "java/lang/Integer", name := "numberOfLeadingZeros", desc := "(I)I" } : Jvm.MethodName) jdk_33_method_47_code (2 : Nat) (Option.some Jvm.ClassFile.FieldType.int)).before args0 about1 = true := code_word (m := ⟨13, 0⟩) (meth := k13m0) (c := k13c0) (by decide +kernel) rfl rfl rfl (by decide +kernel)
set_option maxRecDepth 65536 in
theorem w_c20 : (Jvm.Cond.code ({ cls := "com/example/strati/strati/sim/RunEntries", name := "inKeyOrder", desc := "([J[JJ[ZI)Lcom/example/strati/strati/sim/RunEntries;" } : Jvm.MethodName) prog_49_method_2_code (6 : Nat) (Option.some (Jvm.ClassFile.FieldType.object "com/example/strati/strati/sim/RunEntries"))).before args0 about1 = true := code_word (m := ⟨15, 1⟩) (meth := k15m1) (c := k15c1) (by decide +kernel) rfl rfl rfl (by decide +kernel)
set_option maxRecDepth 65536 in
theorem w_c21 : (Jvm.Cond.code ({ cls := "com/example/strati/strati/sim/RunEntries", name := "<init>", desc := "([J[JJ[ZI)V" } : Jvm.MethodName) prog_49_method_1_code (11 : Nat) (Option.none : Option Jvm.ClassFile.FieldType)).before args0 about1 = true := code_word (m := ⟨15, 0⟩) (meth := k15m0) (c := k15c0) (by decide +kernel) rfl rfl rfl (by decide +kernel)
set_option maxRecDepth 65536 in
theorem w_c22 : (Jvm.Cond.code ({ cls := "com/example/strati/strati/model/KeyRange", name := "<init>", desc := "(JJ)V" } : Jvm.MethodName) prog_23_method_1_code (5 : Nat) (Option.none : Option Jvm.ClassFile.FieldType)).before args0 about1 = true := code_word (m := ⟨16, 0⟩) (meth := k16m0) (c := k16c0) (by decide +kernel) rfl rfl rfl (by decide +kernel)
set_option maxRecDepth 65536 in
theorem w_c23 : (Jvm.Cond.code ({ cls := "java/lang/Long", name := "compareUnsigned", desc := "(JJ)I" } : Jvm.MethodName) jdk_35_method_43_code (4 : Nat) (Option.some Jvm.ClassFile.FieldType.int)).before args0 about1 = true := code_word (m := ⟨12, 1⟩) (meth := k12m1) (c := k12c1) (by decide +kernel) rfl rfl rfl (by decide +kernel)
set_option maxRecDepth 65536 in
theorem w_c24 : (Jvm.Cond.code ({ cls := "java/lang/Long", name := "compare", desc := "(JJ)I" } : Jvm.MethodName) jdk_35_method_42_code (4 : Nat) (Option.some Jvm.ClassFile.FieldType.int)).before args0 about1 = true := code_word (m := ⟨12, 0⟩) (meth := k12m0) (c := k12c0) (by decide +kernel) rfl rfl rfl (by decide +kernel)
set_option maxRecDepth 65536 in
theorem w_c25 : (Jvm.Cond.code ({ cls := "java/util/Optional", name := "of", desc := "(Ljava/lang/Object;)Ljava/util/Optional;" } : Jvm.MethodName) jdk_32_method_3_code (1 : Nat) (Option.some (Jvm.ClassFile.FieldType.object "java/util/Optional"))).before args0 about1 = true := code_word (m := ⟨17, 1⟩) (meth := k17m1) (c := k17c1) (by decide +kernel) rfl rfl rfl (by decide +kernel)
set_option maxRecDepth 65536 in
theorem w_c26 : (Jvm.Cond.code ({ cls := "java/util/Objects", name := "requireNonNull", desc := "(Ljava/lang/Object;)Ljava/lang/Object;" } : Jvm.MethodName) jdk_31_method_10_code (1 : Nat) (Option.some (Jvm.ClassFile.FieldType.object "java/lang/Object"))).before args0 about1 = true := code_word (m := ⟨18, 1⟩) (meth := k18m1) (c := k18c1) (by decide +kernel) rfl rfl rfl (by decide +kernel)
set_option maxRecDepth 65536 in
theorem w_c27 : (Jvm.Cond.code ({ cls := "java/util/Optional", name := "<init>", desc := "(Ljava/lang/Object;)V" } : Jvm.MethodName) jdk_32_method_2_code (2 : Nat) (Option.none : Option Jvm.ClassFile.FieldType)).before args0 about1 = true := code_word (m := ⟨17, 0⟩) (meth := k17m0) (c := k17c0) (by decide +kernel) rfl rfl rfl (by decide +kernel)
set_option maxRecDepth 65536 in
theorem w_c28 : (Jvm.Cond.code ({ cls := "com/example/strati/strati/sim/RunEntries", name := "count", desc := "()I" } : Jvm.MethodName) prog_49_method_5_code (1 : Nat) (Option.some Jvm.ClassFile.FieldType.int)).before args0 about1 = true := code_word (m := ⟨15, 2⟩) (meth := k15m2) (c := k15c2) (by decide +kernel) rfl rfl rfl (by decide +kernel)
set_option maxRecDepth 65536 in
theorem w_c29 : (Jvm.Cond.code ({ cls := "com/example/strati/strati/sim/RunEntries", name := "size", desc := "()J" } : Jvm.MethodName) prog_49_method_6_code (1 : Nat) (Option.some Jvm.ClassFile.FieldType.long)).before args0 about1 = true := code_word (m := ⟨15, 3⟩) (meth := k15m3) (c := k15c3) (by decide +kernel) rfl rfl rfl (by decide +kernel)
def codes1 : List Jvm.Cond := [Jvm.Cond.code x code maxLocals ret, Jvm.Cond.code ({ cls := "com/example/strati/strati/sim/WriteBuffer", name := "<init>", desc := "()V" } : Jvm.MethodName) prog_67_method_1_code (1 : Nat) (Option.none : Option Jvm.ClassFile.FieldType), Jvm.Cond.code ({ cls := "java/lang/Object", name := "<init>", desc := "()V" } : Jvm.MethodName) object_method_1_code (1 : Nat) (Option.none : Option Jvm.ClassFile.FieldType), Jvm.Cond.code ({ cls := "com/example/strati/strati/sim/Entry", name := "<init>", desc := "(JZ)V" } : Jvm.MethodName) prog_35_method_1_code (4 : Nat) (Option.none : Option Jvm.ClassFile.FieldType), Jvm.Cond.code ({ cls := "java/lang/Record", name := "<init>", desc := "()V" } : Jvm.MethodName) jdk_30_method_1_code (1 : Nat) (Option.none : Option Jvm.ClassFile.FieldType), Jvm.Cond.code ({ cls := "com/example/strati/strati/sim/WriteBuffer", name := "put", desc := "(JLcom/example/strati/strati/sim/Entry;)V" } : Jvm.MethodName) prog_67_method_2_code (4 : Nat) (Option.none : Option Jvm.ClassFile.FieldType), Jvm.Cond.code ({ cls := "com/example/strati/strati/sim/Entry", name := "size", desc := "()J" } : Jvm.MethodName) prog_35_method_6_code (1 : Nat) (Option.some Jvm.ClassFile.FieldType.long), Jvm.Cond.code ({ cls := "com/example/strati/strati/sim/Entry", name := "delete", desc := "()Z" } : Jvm.MethodName) prog_35_method_7_code (1 : Nat) (Option.some Jvm.ClassFile.FieldType.boolean), Jvm.Cond.code ({ cls := "com/example/strati/strati/sim/WriteBuffer", name := "clear", desc := "()V" } : Jvm.MethodName) prog_67_method_7_code (1 : Nat) (Option.none : Option Jvm.ClassFile.FieldType), Jvm.Cond.code ({ cls := "com/example/strati/strati/sim/WriteBuffer", name := "isEmpty", desc := "()Z" } : Jvm.MethodName) prog_67_method_5_code (1 : Nat) (Option.some Jvm.ClassFile.FieldType.boolean), Jvm.Cond.code ({ cls := "com/example/strati/strati/sim/WriteBuffer", name := "holds", desc := "(J)Z" } : Jvm.MethodName) prog_67_method_4_code (3 : Nat) (Option.some Jvm.ClassFile.FieldType.boolean), Jvm.Cond.code ({ cls := "com/example/strati/strati/sim/WriteBuffer", name := "buildIndex", desc := "()V" } : Jvm.MethodName) prog_67_method_8_code (3 : Nat) (Option.none : Option Jvm.ClassFile.FieldType), Jvm.Cond.code ({ cls := "com/example/strati/strati/sim/WriteBuffer", name := "slot", desc := "([IJ)I" } : Jvm.MethodName) prog_67_method_11_code (6 : Nat) (Option.some Jvm.ClassFile.FieldType.int), Jvm.Cond.code ({ cls := "com/example/strati/strati/sim/SplitMix64", name := "mix", desc := "(J)J" } : Jvm.MethodName) prog_54_method_5_code (2 : Nat) (Option.some Jvm.ClassFile.FieldType.long), Jvm.Cond.code ({ cls := "com/example/strati/strati/sim/WriteBuffer", name := "index", desc := "(I)V" } : Jvm.MethodName) prog_67_method_9_code (5 : Nat) (Option.none : Option Jvm.ClassFile.FieldType), Jvm.Cond.code ({ cls := "com/example/strati/strati/sim/WriteBuffer", name := "entries", desc := "()Lcom/example/strati/strati/sim/RunEntries;" } : Jvm.MethodName) prog_67_method_6_code (7 : Nat) (Option.some (Jvm.ClassFile.FieldType.object "com/example/strati/strati/sim/RunEntries")), Jvm.Cond.code ({ cls := "com/example/strati/strati/sim/UnsignedKeys", name := "sortInto", desc := "([JI[J[I)V" } : Jvm.MethodName) prog_59_method_3_code (11 : Nat) (Option.none : Option Jvm.ClassFile.FieldType), Jvm.Cond.code ({ cls := "com/example/strati/strati/sim/UnsignedKeys", name := "differingBits", desc := "([JII)I" } : Jvm.MethodName) prog_59_method_8_code (6 : Nat) (Option.some Jvm.ClassFile.FieldType.int), Jvm.Cond.code ({ cls := "java/lang/Long", name := "numberOfLeadingZeros", desc := "(J)I" } : Jvm.MethodName) jdk_35_method_48_code (3 : Nat) (Option.some Jvm.ClassFile.FieldType.int), Jvm.Cond.code ({ cls := "java/lang/Integer", name := "numberOfLeadingZeros", desc := "(I)I" } : Jvm.MethodName) jdk_33_method_47_code (2 : Nat) (Option.some Jvm.ClassFile.FieldType.int), Jvm.Cond.code ({ cls := "com/example/strati/strati/sim/RunEntries", name := "inKeyOrder", desc := "([J[JJ[ZI)Lcom/example/strati/strati/sim/RunEntries;" } : Jvm.MethodName) prog_49_method_2_code (6 : Nat) (Option.some (Jvm.ClassFile.FieldType.object "com/example/strati/strati/sim/RunEntries")), Jvm.Cond.code ({ cls := "com/example/strati/strati/sim/RunEntries", name := "<init>", desc := "([J[JJ[ZI)V" } : Jvm.MethodName) prog_49_method_1_code (11 : Nat) (Option.none : Option Jvm.ClassFile.FieldType), Jvm.Cond.code ({ cls := "com/example/strati/strati/model/KeyRange", name := "<init>", desc := "(JJ)V" } : Jvm.MethodName) prog_23_method_1_code (5 : Nat) (Option.none : Option Jvm.ClassFile.FieldType), Jvm.Cond.code ({ cls := "java/lang/Long", name := "compareUnsigned", desc := "(JJ)I" } : Jvm.MethodName) jdk_35_method_43_code (4 : Nat) (Option.some Jvm.ClassFile.FieldType.int), Jvm.Cond.code ({ cls := "java/lang/Long", name := "compare", desc := "(JJ)I" } : Jvm.MethodName) jdk_35_method_42_code (4 : Nat) (Option.some Jvm.ClassFile.FieldType.int), Jvm.Cond.code ({ cls := "java/util/Optional", name := "of", desc := "(Ljava/lang/Object;)Ljava/util/Optional;" } : Jvm.MethodName) jdk_32_method_3_code (1 : Nat) (Option.some (Jvm.ClassFile.FieldType.object "java/util/Optional")), Jvm.Cond.code ({ cls := "java/util/Objects", name := "requireNonNull", desc := "(Ljava/lang/Object;)Ljava/lang/Object;" } : Jvm.MethodName) jdk_31_method_10_code (1 : Nat) (Option.some (Jvm.ClassFile.FieldType.object "java/lang/Object")), Jvm.Cond.code ({ cls := "java/util/Optional", name := "<init>", desc := "(Ljava/lang/Object;)V" } : Jvm.MethodName) jdk_32_method_2_code (2 : Nat) (Option.none : Option Jvm.ClassFile.FieldType), Jvm.Cond.code ({ cls := "com/example/strati/strati/sim/RunEntries", name := "count", desc := "()I" } : Jvm.MethodName) prog_49_method_5_code (1 : Nat) (Option.some Jvm.ClassFile.FieldType.int), Jvm.Cond.code ({ cls := "com/example/strati/strati/sim/RunEntries", name := "size", desc := "()J" } : Jvm.MethodName) prog_49_method_6_code (1 : Nat) (Option.some Jvm.ClassFile.FieldType.long)]
set_option maxRecDepth 65536 in
theorem codes_eq : words1.filter isCode = codes1 := rfl
theorem w_codes : ∀ c ∈ words1.filter isCode, c.before args0 about1 = true := by
  rw [codes_eq]
  intro c hc
  simp only [codes1, List.mem_cons, List.not_mem_nil, or_false] at hc
  rcases hc with rfl | rfl | rfl | rfl | rfl | rfl | rfl | rfl | rfl | rfl | rfl | rfl | rfl | rfl | rfl | rfl | rfl | rfl | rfl | rfl | rfl | rfl | rfl | rfl | rfl | rfl | rfl | rfl | rfl | rfl
  · exact w_c0
  · exact w_c1
  · exact w_c2
  · exact w_c3
  · exact w_c4
  · exact w_c5
  · exact w_c6
  · exact w_c7
  · exact w_c8
  · exact w_c9
  · exact w_c10
  · exact w_c11
  · exact w_c12
  · exact w_c13
  · exact w_c14
  · exact w_c15
  · exact w_c16
  · exact w_c17
  · exact w_c18
  · exact w_c19
  · exact w_c20
  · exact w_c21
  · exact w_c22
  · exact w_c23
  · exact w_c24
  · exact w_c25
  · exact w_c26
  · exact w_c27
  · exact w_c28
  · exact w_c29
set_option maxRecDepth 65536 in
theorem w_t1 : (words1.take 24).all (fun c => isCode c || c.before args0 about1) = true := by decide +kernel
set_option maxRecDepth 65536 in
theorem w_t2 : ((words1.drop 24).take 24).all (fun c => isCode c || c.before args0 about1) = true := by decide +kernel
set_option maxRecDepth 65536 in
theorem w_t3 : (((words1.drop 24).drop 24).take 24).all (fun c => isCode c || c.before args0 about1) = true := by decide +kernel
set_option maxRecDepth 65536 in
theorem w_t4 : ((((words1.drop 24).drop 24).drop 24).take 24).all (fun c => isCode c || c.before args0 about1) = true := by decide +kernel
set_option maxRecDepth 65536 in
theorem w_t5 : (((((words1.drop 24).drop 24).drop 24).drop 24).take 24).all (fun c => isCode c || c.before args0 about1) = true := by decide +kernel
set_option maxRecDepth 65536 in
theorem w_t6 : ((((((words1.drop 24).drop 24).drop 24).drop 24).drop 24).take 24).all (fun c => isCode c || c.before args0 about1) = true := by decide +kernel
set_option maxRecDepth 65536 in
theorem w_t7 : (((((((words1.drop 24).drop 24).drop 24).drop 24).drop 24).drop 24).take 24).all (fun c => isCode c || c.before args0 about1) = true := by decide +kernel
set_option maxRecDepth 65536 in
theorem w_t8 : (((((((words1.drop 24).drop 24).drop 24).drop 24).drop 24).drop 24).drop 24).all (fun c => isCode c || c.before args0 about1) = true := by decide +kernel
theorem w_tables : (allAtoms (Jvm.Cond.code x code maxLocals ret :: tables_1)).before args0 about1 = true := by
  rw [allAtoms_all]
  show words1.all (fun c => c.before args0 about1) = true
  refine all_split ?_ w_codes
  rw [← List.take_append_drop 24 words1, List.all_append, w_t1, ← List.take_append_drop 24 (words1.drop 24), List.all_append, w_t2, ← List.take_append_drop 24 ((words1.drop 24).drop 24), List.all_append, w_t3, ← List.take_append_drop 24 (((words1.drop 24).drop 24).drop 24), List.all_append, w_t4, ← List.take_append_drop 24 ((((words1.drop 24).drop 24).drop 24).drop 24), List.all_append, w_t5, ← List.take_append_drop 24 (((((words1.drop 24).drop 24).drop 24).drop 24).drop 24), List.all_append, w_t6, ← List.take_append_drop 24 ((((((words1.drop 24).drop 24).drop 24).drop 24).drop 24).drop 24), List.all_append, w_t7, w_t8]
  rfl
set_option maxRecDepth 65536 in
theorem w_case : (Jvm.Cond.and given_1 narrow_1).before args0 about1 = true := by decide +kernel
theorem w_applies : (headSpec (Jvm.Cond.code x code maxLocals ret :: tables_1) room_1).applies x e0.platform about1 = true :=
  (Spec.applies_iff w_frames).mpr ⟨w_running, w_runnable, w_alone, w_named, w_hears, w_ripe, w_room, w_tables⟩
theorem atStart : AtStart classFile x code maxLocals ret World_1 tables_1 room_1 Calls_1 rest_1 Pre_1 launch0 p0 e0 about1 theMethod args0 below0 :=
  ⟨lists_1, trivial, launch0.admits_env _ _ _, launch0.least_env, fairChoices_fair.cas, fairChoices_fair.clock, w_frames, w_args, w_heap, w_applies, trivial, trivial, w_case⟩
end start1
theorem witness_1 : WitnessClaimed_1 := ⟨start1.p0, start1.e0, start1.about1, start1.theMethod, start1.args0, start1.below0, start1.atStart⟩
end Jvm.Pilot.@@N@@
