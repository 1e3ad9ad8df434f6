import JvmDerived
import JvmDerived.Pilot.@@N@@Statement
import JvmDerived.Pilot.@@N@@Code
set_option linter.unusedVariables false
set_option linter.unusedSimpArgs false
@@BLOCK:NumsL.lean.txt@@
namespace Jvm.RoadKit
open Sem ClassFile Op Lib Jvm.Stand Jvm.Free Jvm.LawKit
section New
variable {p : Program} {l : Launch} {e : Env} {R : Room} {s : State} {m : MethodId} {args : Array Value} {below : List Frame} {meth : Method} {c : Code} {T : State} {locs : List Loc} {cells slots : Nat}
theorem retI (X : Stand p l e R s m args below meth c T locs cells slots) (hx : p.tables.exec = Jvm.exec) {pc : Nat} {Ls : Array Slot} {z : Int32} {rest : List Value} (hret : meth.sig.returnType = some .int) (hd : decode c.code pc = .ok (.ireturn, 1)) {fs : List Frame}
    (hl : ∀ (f : JFrame) (acts : List Action), f.method = m → f.locked = none → f.entered = [] → (doReturn e (T.setTop f) acts (some (.int z))).1 = T.setFrames fs) : Steps p.tables e below (T.setTop (mkF m pc Ls (.int z :: rest))) (T.setFrames fs) := by
  have hm' : T.vm.method? m = some meth := X.method'
  have hn : narrow .int (.int z) = .int z := rfl
  show Steps p.tables e below (T.setTop { method := m, pc := pc, locals := Ls, stack := _ :: rest, locked := none }) _
  jvm_step X.here [X.here.top, hx, hd, hm', hret, hn]
  first | (intro acts; rw [hl _ acts rfl rfl rfl]) | rw [hl _ _ rfl rfl rfl]
  exact Steps.refl _
/-- the run from A comes to a return of which F says the value, the heap and the written places -/
def own_Goes (p : Program) (e : Env) (below : List Frame) (s : State) (F : Option Value → Heap → List Loc → Prop) (k n : Nat) (A : State) : Prop :=
  ∃ s₂ o, Steps p.tables e below A s₂ ∧ s₂.status = .running ∧ Ended s₂ below o ∧ ∃ v L, o = .returned v ∧ F v s₂.heap L ∧ FrameEnd s o s₂ L k n
variable {F : Option Value → Heap → List Loc → Prop} {k n : Nat}
theorem own_Goes.step {A B : State} (h : ∀ t, Steps p.tables e below B t → Steps p.tables e below A t) (g : own_Goes p e below s F k n B) : own_Goes p e below s F k n A := by
  obtain ⟨s₂, o, h1, h2⟩ := g
  exact ⟨s₂, o, h _ h1, h2⟩
theorem own_endI (X : Stand p l e R s m args below meth c T locs cells slots) (hx : p.tables.exec = Jvm.exec) (hlk : meth.locks = false) {pc : Nat} {Ls : Array Slot} {z : Int32} {rest : List Value} (hret : meth.sig.returnType = some .int) (hd : decode c.code pc = .ok (.ireturn, 1)) (hF : F (some (.int z)) T.heap locs) (hk : cells ≤ k) (hn : slots ≤ n) :
    own_Goes p e below s F k n (T.setTop (mkF m pc Ls (.int z :: rest))) := by
  obtain ⟨fs, hr, hrun, hended, hW, hsame⟩ := X.leave (v := some (.int z)) (fun h => by rw [hret] at h; cases h) hlk
  exact ⟨_, _, retI X hx hret hd hr, hrun, hended, _, _, rfl, hF, ⟨_, rfl⟩, hW, hsame.mono hk hn⟩
theorem own_endN (X : Stand p l e R s m args below meth c T locs cells slots) (hx : p.tables.exec = Jvm.exec) (hlk : meth.locks = false) {pc : Nat} {Ls : Array Slot} {z : Int32} {t : FieldType} {rest : List Value} (hret : meth.sig.returnType = some t) (ht : t = .boolean ∨ t = .byte ∨ t = .char ∨ t = .short) (hd : decode c.code pc = .ok (.ireturn, 1)) (hF : F (some (.int (nar t z))) T.heap locs) (hk : cells ≤ k) (hn : slots ≤ n) :
    own_Goes p e below s F k n (T.setTop (mkF m pc Ls (.int z :: rest))) := by
  obtain ⟨fs, hr, hrun, hended, hW, hsame⟩ := X.leave (v := some (.int (nar t z))) (fun h => by rw [hret] at h; cases h) hlk
  exact ⟨_, _, retN X hx hret ht hd hr, hrun, hended, _, _, rfl, hF, ⟨_, rfl⟩, hW, hsame.mono hk hn⟩
theorem own_endJ (X : Stand p l e R s m args below meth c T locs cells slots) (hx : p.tables.exec = Jvm.exec) (hlk : meth.locks = false) {pc : Nat} {Ls : Array Slot} {z : Int64} (hret : meth.sig.returnType = some .long) (hd : decode c.code pc = .ok (.lreturn, 1)) (hF : F (some (.long z)) T.heap locs) (hk : cells ≤ k) (hn : slots ≤ n) :
    own_Goes p e below s F k n (T.setTop (mkF m pc Ls [.long z])) := by
  obtain ⟨fs, hr, hrun, hended, hW, hsame⟩ := X.leave (v := some (.long z)) (fun h => by rw [hret] at h; cases h) hlk
  exact ⟨_, _, X.lreturnOut hx hret hd hr, hrun, hended, _, _, rfl, hF, ⟨_, rfl⟩, hW, hsame.mono hk hn⟩
theorem own_endV (X : Stand p l e R s m args below meth c T locs cells slots) (hx : p.tables.exec = Jvm.exec) (hlk : meth.locks = false) {pc : Nat} {Ls : Array Slot} (hret : meth.sig.returnType = none) (hd : decode c.code pc = .ok (.return_, 1)) (hF : F none T.heap locs) (hk : cells ≤ k) (hn : slots ≤ n) :
    own_Goes p e below s F k n (T.setTop (mkF m pc Ls [])) := by
  obtain ⟨fs, hr, hrun, hended, hW, hsame⟩ := X.leave (v := none) (fun _ => rfl) hlk
  exact ⟨_, _, X.returnOut hx hret hd hr, hrun, hended, _, _, rfl, hF, ⟨_, rfl⟩, hW, hsame.mono hk hn⟩
theorem own_endA (X : Stand p l e R s m args below meth c T locs cells slots) (hx : p.tables.exec = Jvm.exec) (hlk : meth.locks = false) {pc : Nat} {Ls : Array Slot} {w : Value} {t : FieldType} (hw : w.isRef = true) (hret : meth.sig.returnType = some t) (ht : t.isReference = true) (hd : decode c.code pc = .ok (.areturn, 1)) (hF : F (some w) T.heap locs) (hk : cells ≤ k) (hn : slots ≤ n) :
    own_Goes p e below s F k n (T.setTop (mkF m pc Ls [w])) := by
  obtain ⟨fs, hr, hrun, hended, hW, hsame⟩ := X.leave (v := some w) (fun h => by rw [hret] at h; cases h) hlk
  exact ⟨_, _, X.areturnOut hx hw hret ht hd hr, hrun, hended, _, _, rfl, hF, ⟨_, rfl⟩, hW, hsame.mono hk hn⟩
theorem own_lrem (x y : Int64) : x - x / y * y = x % y := by
  refine Int64.toInt_inj.mp ?_
  rw [Jvm.Kit.i64_rem, Int64.toInt_mod]
theorem own_lremM {g : JFrame} {target : State} (X : Stand p l e R s m args below meth c T locs cells slots) (hx : p.tables.exec = Jvm.exec) (hg : g.method = m) {x y : Int64} {rest : List Value} (hd : decode c.code g.pc = .ok (.lrem, 1)) (hs : g.stack = .long y :: .long x :: rest) (hy : y ≠ 0)
    (hr : Steps p.tables e below (T.setTop { g with pc := g.pc + 1, stack := .long (x % y) :: rest }) target) : Steps p.tables e below (T.setTop g) target :=
  XT.lrem X.here hx hg hd hs hy (by rw [own_lrem]; exact hr)
/-- the three calls, by a contract in this family, carried forward -/
theorem own_stat {Z : State} {a0 : Array Value} {h : Heap} (X : Stand p l e R s m args below meth c T locs cells slots) (hx : p.tables.exec = Jvm.exec) (hZ : Z.Warmed39 s.vm) (eT : T.heap = h) {own : String} {index : Nat} {y : MethodName} {bytes : ByteArray} {maxL : Nat} {ret : Option FieldType} {rm : Room} {W : Nat} {argsL rest : List Value} {Q : Option Value → Heap → List Loc → Prop}
    (hown : s.vm.findClass own = some m.cls) (wl : (Cond.methodLink own index y).before a0 Z = true) (wst : (Cond.static y).before a0 Z = true) (wi : (Cond.initialized y.cls).before a0 Z = true) (wc : (Cond.code y bytes maxL ret).before a0 Z = true) (hy : y.cls ≠ "java/lang/invoke/MethodHandle" ∧ y.cls ≠ "java/lang/invoke/VarHandle")
    (hM : MetFree l y (head1 [Cond.code y bytes maxL ret] rm) (fun a U => a = argsL.toArray ∧ Z.Warmed39 U.vm ∧ U.heap = h) (fun _ _ _ _ _ => True) (fun _ U o U' => ∃ w L, o = .returned w ∧ Q w U'.heap L ∧ FrameEnd U o U' L rm.cells rm.slots))
    (hf : rm.frames + 1 ≤ R.frames) (hl : W + (maxL + 11) + rm.locals ≤ R.locals) (hcells : cells + rm.cells ≤ R.cells) (hslots : slots + rm.slots ≤ R.slots)
    {g : JFrame} (hg : g.method = m) (hsize : g.locals.size = c.maxLocals) (hlen : ∀ sig, parseMethodDescriptor y.desc = some sig → argsL.length = sig.parameters.length) (hstack : g.stack = argsL.reverse ++ rest) (hW : 2 * g.monitorRoom + (rest.map fun v => v.category).sum ≤ W) (hdg : decode c.code g.pc = .ok (.invokestatic index, 3)) :
    ∃ w T' L, Q w T'.heap L ∧ Stand p l e R s m args below meth c T' (locs ++ L) (cells + rm.cells) (slots + rm.slots) ∧ ∀ t, Steps p.tables e below (T'.setTop { g with pc := g.pc + 3, stack := w.toList ++ rest }) t → Steps p.tables e below (T.setTop g) t := by
  have hB := backOf (R := R) (p := p) (e := e) (below := below) (args := args) (len := 3) (W := W) (Q := Q) hM hZ wc wi hf hl
  obtain ⟨w, vm₁, ⟨U, Lc, k1, n1⟩, -, X', ⟨L, hQ, hL, hC, hS⟩, st⟩ := Jvm.LawKit.callS X hx (y := y) hown (mvT hZ wl) (mvT hZ wst) (mvT hZ wi) (mvT hZ wc) hy hB (g := g) hg hsize hlen hstack hW hdg (fun _ _ => ⟨rfl, eT, hcells, hslots⟩)
  dsimp only [Pt.U, Pt.locs, Pt.cells, Pt.slots] at X' hQ hL hC hS st
  subst hL hC hS
  exact ⟨w, U, L, hQ, X', st⟩
theorem own_spec {Z : State} {a0 : Array Value} {h : Heap} (X : Stand p l e R s m args below meth c T locs cells slots) (hx : p.tables.exec = Jvm.exec) (hZ : Z.Warmed39 s.vm) (eT : T.heap = h) {own : String} {index : Nat} {y : MethodName} {bytes : ByteArray} {maxL : Nat} {rm : Room} {W : Nat} {a : Addr} {argsL rest : List Value} {Q : Option Value → Heap → List Loc → Prop}
    (hy1 : y.name = "<init>") (hown : s.vm.findClass own = some m.cls) (wl : (Cond.methodLink own index y).before a0 Z = true) (wst : (Cond.instanceMethod y).before a0 Z = true) (wi : (Cond.initialized y.cls).before a0 Z = true) (wc : (Cond.code y bytes maxL none).before a0 Z = true) (hy : y.cls ≠ "java/lang/invoke/MethodHandle" ∧ y.cls ≠ "java/lang/invoke/VarHandle")
    (hM : MetFree l y (head1 [Cond.code y bytes maxL none] rm) (fun b U => b = (.ref a :: argsL).toArray ∧ Z.Warmed39 U.vm ∧ U.heap = h) (fun _ _ _ _ _ => True) (fun _ U o U' => ∃ w L, o = .returned w ∧ Q w U'.heap L ∧ FrameEnd U o U' L rm.cells rm.slots))
    (hf : rm.frames + 1 ≤ R.frames) (hl : W + (maxL + 11) + rm.locals ≤ R.locals) (hcells : cells + rm.cells ≤ R.cells) (hslots : slots + rm.slots ≤ R.slots)
    {g : JFrame} (hg : g.method = m) (hsize : g.locals.size = c.maxLocals) (hlen : ∀ sig, parseMethodDescriptor y.desc = some sig → argsL.length = sig.parameters.length) (hstack : g.stack = argsL.reverse ++ .ref a :: rest) (hW : 2 * g.monitorRoom + (rest.map fun v => v.category).sum ≤ W) (hdg : decode c.code g.pc = .ok (.invokespecial index, 3)) :
    ∃ w T' L, Q w T'.heap L ∧ Stand p l e R s m args below meth c T' (locs ++ L) (cells + rm.cells) (slots + rm.slots) ∧ ∀ t, Steps p.tables e below (T'.setTop { g with pc := g.pc + 3, stack := w.toList ++ rest }) t → Steps p.tables e below (T.setTop g) t := by
  have hB := backOf (R := R) (p := p) (e := e) (below := below) (args := args) (len := 3) (W := W) (Q := Q) hM hZ wc wi hf hl
  obtain ⟨w, vm₁, ⟨U, Lc, k1, n1⟩, -, X', ⟨L, hQ, hL, hC, hS⟩, st⟩ := X.specialBack hx (y := y) hy1 hown (mvT hZ wl) (mvT hZ wst) (mvT hZ wc) hy hB (g := g) hg hsize (Steps.refl _) (a := a) hlen hstack hW hdg (fun _ _ => ⟨rfl, eT, hcells, hslots⟩)
  dsimp only [Pt.U, Pt.locs, Pt.cells, Pt.slots] at X' hQ hL hC hS st
  subst hL hC hS
  exact ⟨w, U, L, hQ, X', fun t k => st.trans k⟩
theorem own_virt {Z : State} {a0 : Array Value} {h : Heap} (X : Stand p l e R s m args below meth c T locs cells slots) (hx : p.tables.exec = Jvm.exec) (hZ : Z.Warmed39 s.vm) (eT : T.heap = h) {own C : String} {index : Nat} {y : MethodName} {bytes : ByteArray} {maxL : Nat} {ret : Option FieldType} {rm : Room} {W : Nat} {a : Addr} {argsL rest : List Value} {Q : Option Value → Heap → List Loc → Prop}
    (E : Exa Z h a C) (hown : s.vm.findClass own = some m.cls) (wl : (Cond.methodLink own index y).before a0 Z = true) (wd : (Cond.declares y).before a0 Z = true) (ws : (Cond.selects C y y).before a0 Z = true) (wst : (Cond.instanceMethod y).before a0 Z = true) (wi : (Cond.initialized y.cls).before a0 Z = true) (wc : (Cond.code y bytes maxL ret).before a0 Z = true) (hy : y.cls ≠ "java/lang/invoke/MethodHandle" ∧ y.cls ≠ "java/lang/invoke/VarHandle")
    (hM : MetFree l y (head1 [Cond.code y bytes maxL ret] rm) (fun b U => b = (.ref a :: argsL).toArray ∧ Z.Warmed39 U.vm ∧ U.heap = h) (fun _ _ _ _ _ => True) (fun _ U o U' => ∃ w L, o = .returned w ∧ Q w U'.heap L ∧ FrameEnd U o U' L rm.cells rm.slots))
    (hf : rm.frames + 1 ≤ R.frames) (hl : W + (maxL + 11) + rm.locals ≤ R.locals) (hcells : cells + rm.cells ≤ R.cells) (hslots : slots + rm.slots ≤ R.slots)
    {g : JFrame} (hg : g.method = m) (hsize : g.locals.size = c.maxLocals) (hlen : ∀ sig, parseMethodDescriptor y.desc = some sig → argsL.length = sig.parameters.length) (hstack : g.stack = argsL.reverse ++ .ref a :: rest) (hW : 2 * g.monitorRoom + (rest.map fun v => v.category).sum ≤ W) (hdg : decode c.code g.pc = .ok (.invokevirtual index, 3)) :
    ∃ w T' L, Q w T'.heap L ∧ Stand p l e R s m args below meth c T' (locs ++ L) (cells + rm.cells) (slots + rm.slots) ∧ ∀ t, Steps p.tables e below (T'.setTop { g with pc := g.pc + 3, stack := w.toList ++ rest }) t → Steps p.tables e below (T.setTop g) t := by
  have hB := backOf (R := R) (p := p) (e := e) (below := below) (args := args) (len := 3) (W := W) (Q := Q) hM hZ wc wi hf hl
  obtain ⟨cq, kq, qa, qb, qc⟩ := isOf hZ eT E
  obtain ⟨w, vm₁, ⟨U, Lc, k1, n1⟩, -, X', ⟨L, hQ, hL, hC, hS⟩, st⟩ := X.virtualBack hx (y := y) (z := y) hown (mvT hZ wl) (mvT hZ wd) (notFace_of_selects (args := #[]) (mvT hZ ws)) (mvT hZ ws) (mvT hZ wst) hy hB qa qc (g := g) hg hsize (Steps.refl _) hlen hstack hW hdg (fun _ _ => ⟨rfl, eT, hcells, hslots⟩)
  dsimp only [Pt.U, Pt.locs, Pt.cells, Pt.slots] at X' hQ hL hC hS st
  subst hL hC hS
  exact ⟨w, U, L, hQ, X', fun t k => st.trans k⟩
/-- a call that left nothing behind -/
theorem own_clean {h : Heap} {w v : Option Value} {T' : State} {L : List Loc} {k0 n0 : Nat} (q : w = v ∧ L = [] ∧ T'.heap = h) (X : Stand p l e R s m args below meth c T' (locs ++ L) (cells + k0) (slots + n0)) (hk : k0 = 0) (hn : n0 = 0) : T'.heap = h ∧ Stand p l e R s m args below meth c T' locs cells slots := by
  obtain ⟨-, rfl, hh⟩ := q
  subst hk hn
  rw [List.append_nil] at X
  exact ⟨hh, X⟩
theorem own_nin {a b : Addr} (q : b ≠ a) : b ∉ [a] := fun h => q (List.mem_singleton.mp h)
theorem own_kt {h0 : Heap} {ws : List Addr} {a : Addr} (q : a ∈ ws ∨ h0.size ≤ a) : ∀ x ∈ [a], x ∈ ws ∨ h0.size ≤ x := fun x hx => by
  cases List.mem_singleton.mp hx; exact q
end New
end Jvm.RoadKit
namespace Jvm.Pilot.@@N@@
open Jvm Jvm.ClassFile Sem Op Lib Jvm.Free Jvm.Stand Jvm.LawKit Jvm.RoadKit Bundle Jvm.Pilot.@@N@@.Jvm.D
/-! plain facts on ints and longs -/
theorem own_char16 (u : UInt16) : (u.toUInt32.toInt32).toInt = u.toNat := by
  have h := u.toNat_lt
  show BitVec.toInt u.toUInt32.toBitVec = _
  rw [BitVec.toInt_eq_toNat_of_lt (by simp; omega)]
  simp
theorem own_char (y : Int32) : 0 ≤ (y.toUInt32.toUInt16.toUInt32.toInt32).toInt ∧ (y.toUInt32.toUInt16.toUInt32.toInt32).toInt < 65536 := by
  rw [own_char16]
  have h := y.toUInt32.toUInt16.toNat_lt
  omega
theorem own_fin32 {P : Int32 → Prop} (n : Nat) (h : ∀ k : Fin n, P (Int32.ofNat k)) (c : Int32) (h0 : 0 ≤ c.toInt) (h1 : c.toInt < n) : P c := by
  have e : c = Int32.ofNat c.toInt.toNat := by
    apply Int32.toInt_inj.mp
    have hb := c.toInt_lt
    rw [Int32.toInt_ofNat_of_lt (by omega)]
    omega
  rw [e]
  exact h ⟨c.toInt.toNat, by omega⟩
theorem own_lt32 (x y : Int32) : (x < y) ↔ x.toInt < y.toInt := Int32.lt_iff_toInt_lt
theorem own_eq32 (x y : Int32) : (x = y) ↔ x.toInt = y.toInt := Int32.toInt_inj.symm
theorem own_lt64 (x y : Int64) : (x < y) ↔ x.toInt < y.toInt := Int64.lt_iff_toInt_lt
theorem own_eq64 (x y : Int64) : (x = y) ↔ x.toInt = y.toInt := Int64.toInt_inj.symm
theorem d2_0 : decode prog_36_method_39_code 0 = .ok (.iload_n 0, 1) := by decide +kernel
theorem d2_1 : decode prog_36_method_39_code 1 = .ok (.ifCond .gt 17, 3) := by decide +kernel
theorem d2_4 : decode prog_36_method_39_code 4 = .ok (.new 267, 3) := by decide +kernel
theorem d2_7 : decode prog_36_method_39_code 7 = .ok (.dup, 1) := by decide +kernel
theorem d2_8 : decode prog_36_method_39_code 8 = .ok (.iload_n 0, 1) := by decide +kernel
theorem d2_14 : decode prog_36_method_39_code 14 = .ok (.invokespecial 270, 3) := by decide +kernel
theorem d2_17 : decode prog_36_method_39_code 17 = .ok (.athrow, 1) := by decide +kernel
theorem d2_18 : decode prog_36_method_39_code 18 = .ok (.iload_n 0, 1) := by decide +kernel
theorem d2_19 : decode prog_36_method_39_code 19 = .ok (.ireturn, 1) := by decide +kernel
theorem pn_2 : plainName "com/example/instance_picker/instancepicker/Strategy" = true := by first | (simp [plainName, overriddenIn]; done) | decide +kernel
theorem pd_2 : parseMethodDescriptor "(I)I" = some ⟨[.int], (some .int)⟩ := by decide +kernel
theorem ef_2 (m : MethodId) (x0 : Int32) : entryFrame m #[(.int x0)] 1 = mkF m 0 #[.val (.int x0)] [] := by first | (simp [entryFrame, mkF, argsToLocals, Value.category]; done) | rfl
def own_f2 (x0 : Int32) : Int32 := x0
def own_F2 (Z : State) (x0 : Int32)  (h0 : Heap) (v : Option Value) (h : Heap) (L : List Loc) : Prop := v = some (.int (own_f2 x0)) ∧ L = [] ∧ h = h0
set_option maxRecDepth 65536 in
set_option maxHeartbeats 40000000 in
theorem own_m2 (l : Launch) (Z : State) (a0 : Array Value) (hw : ∀ d ∈ tables_1, d.before a0 Z = true) (ws : List Jvm.Cond) (x0 : Int32)  (h0 : Heap)  (hp : (0 : Int32) < x0) :
    MetFree l (⟨"com/example/instance_picker/instancepicker/Strategy", "checkedVirtualNodes", "(I)I"⟩ : MethodName) (head1 (Jvm.Cond.code (⟨"com/example/instance_picker/instancepicker/Strategy", "checkedVirtualNodes", "(I)I"⟩ : MethodName) prog_36_method_39_code 1 (some .int) :: ws) ({ frames := 0, cells := 0, slots := 0, locals := 0 } : Room)) (fun a U => a = #[(.int x0)] ∧ Z.Warmed39 U.vm ∧ U.heap = h0) (fun _ _ _ _ _ => True) (fun _ U o U' => ∃ v L, o = .returned v ∧ own_F2 Z x0 h0 v U'.heap L ∧ FrameEnd U o U' L ({ frames := 0, cells := 0, slots := 0, locals := 0 } : Room).cells ({ frames := 0, cells := 0, slots := 0, locals := 0 } : Room).slots) := by
  refine MetFree.of_bodySF (plainFor_of_name pn_2) hisR ?_
  intro p e s m args below meth c s₁ Bd hml0 hP hK
  obtain ⟨rfl, hZ, hh⟩ := hP
  have hx := Bd.exec
  have hby := Bd.bytes
  have hml : c.maxLocals = 1 := hml0
  have hown : s.vm.findClass "com/example/instance_picker/instancepicker/Strategy" = some m.cls := findClass_of_methodNamed Bd.named
  have hnm := (name_of_methodNamed Bd.named Bd.method).1
  have X0 : Stand p l e ({ frames := 0, cells := 0, slots := 0, locals := 0 } : Room) s m #[(.int x0)] below meth c s₁ [] 0 0 := Stand.of_body Bd
  have e0 : s₁.heap = h0 := by rw [← hh, Bd.state]; rfl
  have hgo : own_Goes p e below s (own_F2 Z x0 h0) 0 0 (s₁.setTop (mkF m 0 #[.val (.int x0)] [])) := by
    refine own_Goes.step (fun t k => XS.iloadN X0.here hx rfl (hb hby d2_0) rfl k) ?_
    show own_Goes p e below s (own_F2 Z x0 h0) 0 0 (s₁.setTop (mkF m 1 #[.val (.int x0)] [(.int x0)]))
    refine own_Goes.step (fun t k => XS.ifYes X0.here hx rfl (pc0 := 1) (pc' := 18) rfl (hb hby d2_1) rfl (XT.i0_gt_t (hp)) (by decide) (by decide) k) ?_
    show own_Goes p e below s (own_F2 Z x0 h0) 0 0 (s₁.setTop (mkF m 18 #[.val (.int x0)] []))
    refine own_Goes.step (fun t k => XS.iloadN X0.here hx rfl (hb hby d2_18) rfl k) ?_
    show own_Goes p e below s (own_F2 Z x0 h0) 0 0 (s₁.setTop (mkF m 19 #[.val (.int x0)] [(.int x0)]))
    exact own_endI X0 hx Bd.notSynchronized Bd.returns (hb hby d2_19) ⟨(congrArg (fun z => some (Value.int z)) (show x0 = own_f2 x0 from by simp only [own_f2])), rfl, e0⟩ (by decide) (by decide)
  obtain ⟨t2, o2, q1, q2, q3, q4⟩ := hgo
  exact ⟨t2, o2, castTop (ef_2 m x0) q1, q2, q3, q4⟩
theorem d1_0 : decode jdk_29_method_65_code 0 = .ok (.iload_n 0, 1) := by decide +kernel
theorem d1_1 : decode jdk_29_method_65_code 1 = .ok (.iload_n 1, 1) := by decide +kernel
theorem d1_2 : decode jdk_29_method_65_code 2 = .ok (.if_icmp .lt 7, 3) := by decide +kernel
theorem d1_5 : decode jdk_29_method_65_code 5 = .ok (.iload_n 0, 1) := by decide +kernel
theorem d1_6 : decode jdk_29_method_65_code 6 = .ok (.goto 4, 3) := by decide +kernel
theorem d1_9 : decode jdk_29_method_65_code 9 = .ok (.iload_n 1, 1) := by decide +kernel
theorem d1_10 : decode jdk_29_method_65_code 10 = .ok (.ireturn, 1) := by decide +kernel
theorem pn_1 : plainFor (⟨"java/lang/Math", "max", "(II)I"⟩ : MethodName) = true := by decide +kernel
theorem pd_1 : parseMethodDescriptor "(II)I" = some ⟨[.int, .int], (some .int)⟩ := by decide +kernel
theorem ef_1 (m : MethodId) (x0 : Int32) (x1 : Int32) : entryFrame m #[(.int x0), (.int x1)] 2 = mkF m 0 #[.val (.int x0), .val (.int x1)] [] := by first | (simp [entryFrame, mkF, argsToLocals, Value.category]; done) | rfl
def own_f1 (x0 : Int32) (x1 : Int32) : Int32 := (if x0 < x1 then x1 else x0)
def own_F1 (Z : State) (x0 : Int32) (x1 : Int32)  (h0 : Heap) (v : Option Value) (h : Heap) (L : List Loc) : Prop := v = some (.int (own_f1 x0 x1)) ∧ L = [] ∧ h = h0
set_option maxRecDepth 65536 in
set_option maxHeartbeats 40000000 in
theorem own_m1 (l : Launch) (Z : State) (a0 : Array Value) (hw : ∀ d ∈ tables_1, d.before a0 Z = true) (ws : List Jvm.Cond) (x0 : Int32) (x1 : Int32)  (h0 : Heap)   :
    MetFree l (⟨"java/lang/Math", "max", "(II)I"⟩ : MethodName) (head1 (Jvm.Cond.code (⟨"java/lang/Math", "max", "(II)I"⟩ : MethodName) jdk_29_method_65_code 2 (some .int) :: ws) ({ frames := 0, cells := 0, slots := 0, locals := 0 } : Room)) (fun a U => a = #[(.int x0), (.int x1)] ∧ Z.Warmed39 U.vm ∧ U.heap = h0) (fun _ _ _ _ _ => True) (fun _ U o U' => ∃ v L, o = .returned v ∧ own_F1 Z x0 x1 h0 v U'.heap L ∧ FrameEnd U o U' L ({ frames := 0, cells := 0, slots := 0, locals := 0 } : Room).cells ({ frames := 0, cells := 0, slots := 0, locals := 0 } : Room).slots) := by
  refine MetFree.of_bodySF pn_1 hisR ?_
  intro p e s m args below meth c s₁ Bd hml0 hP hK
  obtain ⟨rfl, hZ, hh⟩ := hP
  have hx := Bd.exec
  have hby := Bd.bytes
  have hml : c.maxLocals = 2 := hml0
  have hown : s.vm.findClass "java/lang/Math" = some m.cls := findClass_of_methodNamed Bd.named
  have hnm := (name_of_methodNamed Bd.named Bd.method).1
  have X0 : Stand p l e ({ frames := 0, cells := 0, slots := 0, locals := 0 } : Room) s m #[(.int x0), (.int x1)] below meth c s₁ [] 0 0 := Stand.of_body Bd
  have e0 : s₁.heap = h0 := by rw [← hh, Bd.state]; rfl
  have hgo : own_Goes p e below s (own_F1 Z x0 x1 h0) 0 0 (s₁.setTop (mkF m 0 #[.val (.int x0), .val (.int x1)] [])) := by
    refine own_Goes.step (fun t k => XS.iloadN X0.here hx rfl (hb hby d1_0) rfl k) ?_
    show own_Goes p e below s (own_F1 Z x0 x1 h0) 0 0 (s₁.setTop (mkF m 1 #[.val (.int x0), .val (.int x1)] [(.int x0)]))
    refine own_Goes.step (fun t k => XS.iloadN X0.here hx rfl (hb hby d1_1) rfl k) ?_
    show own_Goes p e below s (own_F1 Z x0 x1 h0) 0 0 (s₁.setTop (mkF m 2 #[.val (.int x0), .val (.int x1)] [(.int x1), (.int x0)]))
    by_cases hc1 : x0 < x1
    · refine own_Goes.step (fun t k => XS.icmpYes X0.here hx rfl (pc0 := 2) (pc' := 9) rfl (hb hby d1_2) rfl (XT.ii_lt_t hc1) (by decide) (by decide) k) ?_
      show own_Goes p e below s (own_F1 Z x0 x1 h0) 0 0 (s₁.setTop (mkF m 9 #[.val (.int x0), .val (.int x1)] []))
      refine own_Goes.step (fun t k => XS.iloadN X0.here hx rfl (hb hby d1_9) rfl k) ?_
      show own_Goes p e below s (own_F1 Z x0 x1 h0) 0 0 (s₁.setTop (mkF m 10 #[.val (.int x0), .val (.int x1)] [(.int x1)]))
      exact own_endI X0 hx Bd.notSynchronized Bd.returns (hb hby d1_10) ⟨(congrArg (fun z => some (Value.int z)) (show x1 = own_f1 x0 x1 from by simp only [own_f1, if_pos hc1])), rfl, e0⟩ (by decide) (by decide)
    · refine own_Goes.step (fun t k => XS.icmpNo X0.here hx rfl (hb hby d1_2) rfl (XT.ii_lt_f hc1) k) ?_
      show own_Goes p e below s (own_F1 Z x0 x1 h0) 0 0 (s₁.setTop (mkF m 5 #[.val (.int x0), .val (.int x1)] []))
      refine own_Goes.step (fun t k => XS.iloadN X0.here hx rfl (hb hby d1_5) rfl k) ?_
      show own_Goes p e below s (own_F1 Z x0 x1 h0) 0 0 (s₁.setTop (mkF m 6 #[.val (.int x0), .val (.int x1)] [(.int x0)]))
      refine own_Goes.step (fun t k => XS.goto X0.here hx rfl (pc0 := 6) (pc' := 10) rfl (hb hby d1_6) (by decide) (by decide) k) ?_
      show own_Goes p e below s (own_F1 Z x0 x1 h0) 0 0 (s₁.setTop (mkF m 10 #[.val (.int x0), .val (.int x1)] [(.int x0)]))
      exact own_endI X0 hx Bd.notSynchronized Bd.returns (hb hby d1_10) ⟨(congrArg (fun z => some (Value.int z)) (show x0 = own_f1 x0 x1 from by simp only [own_f1, if_neg hc1])), rfl, e0⟩ (by decide) (by decide)
  obtain ⟨t2, o2, q1, q2, q3, q4⟩ := hgo
  exact ⟨t2, o2, castTop (ef_1 m x0 x1) q1, q2, q3, q4⟩
theorem own_pos (y : Int32) : (0 : Int32) < own_f1 (1 : Int32) y := by
  unfold own_f1
  have k1 : (1 : Int32).toInt = 1 := rfl
  have k0 : (0 : Int32).toInt = 0 := rfl
  split
  · next h => rw [own_lt32] at h ⊢; omega
  · decide
theorem pn_0 : plainName "com/example/instance_picker/instancepicker/StrategyCheckedVirtualNodesPinLaw" = true := by first | (simp [plainName, overriddenIn]; done) | decide +kernel
theorem pd_0 : parseMethodDescriptor "(I)Z" = some ⟨[.int], (some .boolean)⟩ := by decide +kernel
theorem ef_0 (m : MethodId) (x0 : Int32) : entryFrame m #[(.int x0)] maxLocals = mkF m 0 #[.val (.int x0), .unset, .unset] [] := by first | (simp [entryFrame, mkF, argsToLocals, Value.category, maxLocals]; done) | rfl
def own_f0 (x0 : Int32) : Int32 := (if (own_f2 (own_f1 (1 : Int32) (x0 &&& (2147483647 : Int32)))) = (own_f1 (1 : Int32) (x0 &&& (2147483647 : Int32))) then (1 : Int32) else (0 : Int32))
def own_F0 (Z : State) (x0 : Int32)  (n0 : Nat) (h0 : Heap) (v : Option Value) (h : Heap) (L : List Loc) : Prop := v = some (.int (own_f0 x0)) ∧ Fr n0 L
set_option maxRecDepth 65536 in
set_option maxHeartbeats 40000000 in
theorem own_m0 (l : Launch) (Z : State) (a0 : Array Value) (hw : ∀ d ∈ tables_1, d.before a0 Z = true) (ws : List Jvm.Cond) (x0 : Int32)  (n0 : Nat) (h0 : Heap) (Z0 : n0 ≤ h0.size)   :
    MetFree l x (head1 (Jvm.Cond.code x code maxLocals ret :: ws) room_1) (fun a U => a = #[(.int x0)] ∧ Z.Warmed39 U.vm ∧ U.heap = h0) (fun _ _ _ _ _ => True) (fun _ U o U' => ∃ v L, o = .returned v ∧ own_F0 Z x0 n0 h0 v U'.heap L ∧ FrameEnd U o U' L room_1.cells room_1.slots) := by
  refine MetFree.of_bodySF (plainFor_of_name pn_0) hisR ?_
  intro p e s m args below meth c s₁ Bd hml0 hP hK
  obtain ⟨rfl, hZ, hh⟩ := hP
  have hx := Bd.exec
  have hby := Bd.bytes
  have hml : c.maxLocals = 3 := hml0
  have hown : s.vm.findClass "com/example/instance_picker/instancepicker/StrategyCheckedVirtualNodesPinLaw" = some m.cls := findClass_of_methodNamed Bd.named
  have hnm := (name_of_methodNamed Bd.named Bd.method).1
  have X0 : Stand p l e room_1 s m #[(.int x0)] below meth c s₁ [] 0 0 := Stand.of_body Bd
  have e0 : s₁.heap = h0 := by rw [← hh, Bd.state]; rfl
  have N0 := Fr.nil n0
  have K0 : Keep h0 h0 [] := Keep.refl h0 []
  have hgo : own_Goes p e below s (own_F0 Z x0 n0 h0) room_1.cells room_1.slots (s₁.setTop (mkF m 0 #[.val (.int x0), .unset, .unset] [])) := by
    refine own_Goes.step (fun t k => XT.iconstV X0.here hx rfl (1 : Int32) (hb hby at_0) (by decide) k) ?_
    show own_Goes p e below s (own_F0 Z x0 n0 h0) room_1.cells room_1.slots (s₁.setTop (mkF m 1 #[.val (.int x0), .unset, .unset] [(.int (1 : Int32))]))
    refine own_Goes.step (fun t k => XS.iloadN X0.here hx rfl (hb hby at_1) rfl k) ?_
    show own_Goes p e below s (own_F0 Z x0 n0 h0) room_1.cells room_1.slots (s₁.setTop (mkF m 2 #[.val (.int x0), .unset, .unset] [(.int x0), (.int (1 : Int32))]))
    refine own_Goes.step (fun t k => X0.ldcI hx hown (mvT hZ (hw _ (List.mem_of_getElem? (i := 0) rfl))) rfl (hb hby at_2) k) ?_
    show own_Goes p e below s (own_F0 Z x0 n0 h0) room_1.cells room_1.slots (s₁.setTop (mkF m 4 #[.val (.int x0), .unset, .unset] [(.int (2147483647 : Int32)), (.int x0), (.int (1 : Int32))]))
    refine own_Goes.step (fun t k => XS.iand X0.here hx rfl (hb hby at_4) rfl k) ?_
    show own_Goes p e below s (own_F0 Z x0 n0 h0) room_1.cells room_1.slots (s₁.setTop (mkF m 5 #[.val (.int x0), .unset, .unset] [(.int (x0 &&& (2147483647 : Int32))), (.int (1 : Int32))]))
    obtain ⟨w1, T1, L1, q1, Y1, st1⟩ := own_stat X0 hx hZ e0 hown (hw _ (List.mem_of_getElem? (i := 1) rfl)) (hw _ (List.mem_of_getElem? (i := 2) rfl)) (hw _ (List.mem_of_getElem? (i := 3) rfl)) (hw _ (List.mem_of_getElem? (i := 4) rfl)) (by decide) (own_m1 l Z a0 hw [] (1 : Int32) (x0 &&& (2147483647 : Int32)) h0 ) (by decide) (W := 0) (by decide) (by decide) (by decide) (g := (mkF m 5 #[.val (.int x0), .unset, .unset] [(.int (x0 &&& (2147483647 : Int32))), (.int (1 : Int32))])) rfl (by rw [hml]; rfl) (argsL := [(.int (1 : Int32)), (.int (x0 &&& (2147483647 : Int32)))]) (rest := []) (lenOf pd_1 rfl) rfl (by show 2 * 0 + _ ≤ _; exact Nat.le_of_eq rfl) (hb hby at_5)
    obtain ⟨e1, X1⟩ := own_clean q1 Y1 rfl rfl
    obtain ⟨rfl, -, -⟩ := q1
    refine own_Goes.step st1 ?_
    show own_Goes p e below s (own_F0 Z x0 n0 h0) room_1.cells room_1.slots (T1.setTop (mkF m 8 #[.val (.int x0), .unset, .unset] [(.int (own_f1 (1 : Int32) (x0 &&& (2147483647 : Int32))))]))
    refine own_Goes.step (fun t k => XS.istoreN X1.here hx rfl (hb hby at_8) rfl (l' := #[.val (.int x0), .val (.int (own_f1 (1 : Int32) (x0 &&& (2147483647 : Int32)))), .unset]) rfl k) ?_
    show own_Goes p e below s (own_F0 Z x0 n0 h0) room_1.cells room_1.slots (T1.setTop (mkF m 9 #[.val (.int x0), .val (.int (own_f1 (1 : Int32) (x0 &&& (2147483647 : Int32)))), .unset] []))
    refine own_Goes.step (fun t k => XS.iloadN X1.here hx rfl (hb hby at_9) rfl k) ?_
    show own_Goes p e below s (own_F0 Z x0 n0 h0) room_1.cells room_1.slots (T1.setTop (mkF m 10 #[.val (.int x0), .val (.int (own_f1 (1 : Int32) (x0 &&& (2147483647 : Int32)))), .unset] [(.int (own_f1 (1 : Int32) (x0 &&& (2147483647 : Int32))))]))
    obtain ⟨w2, T2, L2, q2, Y2, st2⟩ := own_stat X1 hx hZ e1 hown (hw _ (List.mem_of_getElem? (i := 5) rfl)) (hw _ (List.mem_of_getElem? (i := 6) rfl)) (hw _ (List.mem_of_getElem? (i := 7) rfl)) (hw _ (List.mem_of_getElem? (i := 8) rfl)) (by decide) (own_m2 l Z a0 hw [] (own_f1 (1 : Int32) (x0 &&& (2147483647 : Int32))) h0 (own_pos _)) (by decide) (W := 0) (by decide) (by decide) (by decide) (g := (mkF m 10 #[.val (.int x0), .val (.int (own_f1 (1 : Int32) (x0 &&& (2147483647 : Int32)))), .unset] [(.int (own_f1 (1 : Int32) (x0 &&& (2147483647 : Int32))))])) rfl (by rw [hml]; rfl) (argsL := [(.int (own_f1 (1 : Int32) (x0 &&& (2147483647 : Int32))))]) (rest := []) (lenOf pd_2 rfl) rfl (by show 2 * 0 + _ ≤ _; exact Nat.le_of_eq rfl) (hb hby at_10)
    obtain ⟨e2, X2⟩ := own_clean q2 Y2 rfl rfl
    obtain ⟨rfl, -, -⟩ := q2
    refine own_Goes.step st2 ?_
    show own_Goes p e below s (own_F0 Z x0 n0 h0) room_1.cells room_1.slots (T2.setTop (mkF m 13 #[.val (.int x0), .val (.int (own_f1 (1 : Int32) (x0 &&& (2147483647 : Int32)))), .unset] [(.int (own_f2 (own_f1 (1 : Int32) (x0 &&& (2147483647 : Int32)))))]))
    refine own_Goes.step (fun t k => XS.istoreN X2.here hx rfl (hb hby at_13) rfl (l' := #[.val (.int x0), .val (.int (own_f1 (1 : Int32) (x0 &&& (2147483647 : Int32)))), .val (.int (own_f2 (own_f1 (1 : Int32) (x0 &&& (2147483647 : Int32)))))]) rfl k) ?_
    show own_Goes p e below s (own_F0 Z x0 n0 h0) room_1.cells room_1.slots (T2.setTop (mkF m 14 #[.val (.int x0), .val (.int (own_f1 (1 : Int32) (x0 &&& (2147483647 : Int32)))), .val (.int (own_f2 (own_f1 (1 : Int32) (x0 &&& (2147483647 : Int32)))))] []))
    refine own_Goes.step (fun t k => XS.iloadN X2.here hx rfl (hb hby at_14) rfl k) ?_
    show own_Goes p e below s (own_F0 Z x0 n0 h0) room_1.cells room_1.slots (T2.setTop (mkF m 15 #[.val (.int x0), .val (.int (own_f1 (1 : Int32) (x0 &&& (2147483647 : Int32)))), .val (.int (own_f2 (own_f1 (1 : Int32) (x0 &&& (2147483647 : Int32)))))] [(.int (own_f2 (own_f1 (1 : Int32) (x0 &&& (2147483647 : Int32)))))]))
    refine own_Goes.step (fun t k => XS.iloadN X2.here hx rfl (hb hby at_15) rfl k) ?_
    show own_Goes p e below s (own_F0 Z x0 n0 h0) room_1.cells room_1.slots (T2.setTop (mkF m 16 #[.val (.int x0), .val (.int (own_f1 (1 : Int32) (x0 &&& (2147483647 : Int32)))), .val (.int (own_f2 (own_f1 (1 : Int32) (x0 &&& (2147483647 : Int32)))))] [(.int (own_f1 (1 : Int32) (x0 &&& (2147483647 : Int32)))), (.int (own_f2 (own_f1 (1 : Int32) (x0 &&& (2147483647 : Int32)))))]))
    by_cases hc3 : (own_f2 (own_f1 (1 : Int32) (x0 &&& (2147483647 : Int32)))) = (own_f1 (1 : Int32) (x0 &&& (2147483647 : Int32)))
    · refine own_Goes.step (fun t k => XS.icmpNo X2.here hx rfl (hb hby at_16) rfl (XT.ii_ne_f hc3) k) ?_
      show own_Goes p e below s (own_F0 Z x0 n0 h0) room_1.cells room_1.slots (T2.setTop (mkF m 19 #[.val (.int x0), .val (.int (own_f1 (1 : Int32) (x0 &&& (2147483647 : Int32)))), .val (.int (own_f2 (own_f1 (1 : Int32) (x0 &&& (2147483647 : Int32)))))] []))
      refine own_Goes.step (fun t k => XT.iconstV X2.here hx rfl (1 : Int32) (hb hby at_19) (by decide) k) ?_
      show own_Goes p e below s (own_F0 Z x0 n0 h0) room_1.cells room_1.slots (T2.setTop (mkF m 20 #[.val (.int x0), .val (.int (own_f1 (1 : Int32) (x0 &&& (2147483647 : Int32)))), .val (.int (own_f2 (own_f1 (1 : Int32) (x0 &&& (2147483647 : Int32)))))] [(.int (1 : Int32))]))
      refine own_Goes.step (fun t k => XS.goto X2.here hx rfl (pc0 := 20) (pc' := 24) rfl (hb hby at_20) (by decide) (by decide) k) ?_
      show own_Goes p e below s (own_F0 Z x0 n0 h0) room_1.cells room_1.slots (T2.setTop (mkF m 24 #[.val (.int x0), .val (.int (own_f1 (1 : Int32) (x0 &&& (2147483647 : Int32)))), .val (.int (own_f2 (own_f1 (1 : Int32) (x0 &&& (2147483647 : Int32)))))] [(.int (1 : Int32))]))
      exact own_endN X2 hx Bd.notSynchronized (t := .boolean) Bd.returns (by simp) (hb hby at_24) ⟨(congrArg (fun z => some (Value.int z)) (show (1 : Int32) = own_f0 x0 from by simp only [own_f0, if_pos hc3])), N0⟩ (by decide) (by decide)
    · refine own_Goes.step (fun t k => XS.icmpYes X2.here hx rfl (pc0 := 16) (pc' := 23) rfl (hb hby at_16) rfl (XT.ii_ne_t hc3) (by decide) (by decide) k) ?_
      show own_Goes p e below s (own_F0 Z x0 n0 h0) room_1.cells room_1.slots (T2.setTop (mkF m 23 #[.val (.int x0), .val (.int (own_f1 (1 : Int32) (x0 &&& (2147483647 : Int32)))), .val (.int (own_f2 (own_f1 (1 : Int32) (x0 &&& (2147483647 : Int32)))))] []))
      refine own_Goes.step (fun t k => XT.iconstV X2.here hx rfl (0 : Int32) (hb hby at_23) (by decide) k) ?_
      show own_Goes p e below s (own_F0 Z x0 n0 h0) room_1.cells room_1.slots (T2.setTop (mkF m 24 #[.val (.int x0), .val (.int (own_f1 (1 : Int32) (x0 &&& (2147483647 : Int32)))), .val (.int (own_f2 (own_f1 (1 : Int32) (x0 &&& (2147483647 : Int32)))))] [(.int (0 : Int32))]))
      exact own_endN X2 hx Bd.notSynchronized (t := .boolean) Bd.returns (by simp) (hb hby at_24) ⟨(congrArg (fun z => some (Value.int z)) (show (0 : Int32) = own_f0 x0 from by simp only [own_f0, if_neg hc3])), N0⟩ (by decide) (by decide)
  obtain ⟨t2, o2, q1, q2, q3, q4⟩ := hgo
  exact ⟨t2, o2, castTop (ef_0 m x0) q1, q2, q3, q4⟩
theorem own_law (x0 : Int32) : own_f0 x0 = 1 := by
  rw [own_f0, if_pos (show own_f2 (own_f1 (1 : Int32) (x0 &&& (2147483647 : Int32))) = own_f1 (1 : Int32) (x0 &&& (2147483647 : Int32)) from rfl)]
set_option maxRecDepth 65536 in
set_option maxHeartbeats 40000000 in
theorem comes_1 {Post : Tables → Env → Array Value → State → Outcome → State → Prop} (hpost : ∀ tb e args s v u, (limb_1_1.after args s (.returned v) u = true ∧ limb_1_2.after args s (.returned v) u = true ∧ True) → FrameEnd s (.returned v) u (Jvm.fieldLocs frame_1_writes args s ++ Jvm.arrayLocs frame_1_arrays args s ++ Jvm.staticLocs frame_1_statics s) 0 0 → Post tb e args s (.returned v) u) :
    ArmFor flags0 classFile x code maxLocals ret World_1 tables_1 room_1 Calls_1 rest_1 Pre_1 Post := by
  intro l hfl _ _ p e ha hc hk s m args below hf hA hF happ hP
  obtain ⟨hcalls, hrest, hpre⟩ := hP
  obtain ⟨-, -, -, hnamed, -, -, -, hat⟩ := (Spec.applies_iff hf).mp happ
  obtain ⟨hg, hn⟩ := and_e (Cond.before_iff.mp (show (Jvm.Cond.and given_1 narrow_1).before args s = true from hpre))
  obtain ⟨hcount, hr0⟩ := and_e hg
  obtain ⟨w0, rfl⟩ : ∃ w0 : Value, args = #[w0] := by
    have hs : args.size = 1 := by simpa [Cond.value, given_1] using hcount
    obtain ⟨L⟩ := args
    match L, hs with
    | [w0], _ => exact ⟨w0, rfl⟩
  have hw := fun d (hd : d ∈ tables_1) => atoms_spec (ws := Jvm.Cond.code x code maxLocals ret :: tables_1) hat d (List.mem_cons_of_mem _ hd)
  obtain ⟨i0, ev0⟩ := is_v hr0
  obtain rfl : w0 = (.int i0) := Option.some.inj ev0
  obtain ⟨n, o, h1, h2, h3, _, L, rfl, ⟨rfl, N⟩, hq⟩ := own_m0 l s _ hw tables_1 i0 s.heap.size s.heap (Nat.le_refl _) p e ha hc hk s m _ below hf ((Spec.applies_iff_loose hf).mp happ).1 ⟨rfl, State.Warmed39.refl s, rfl⟩ trivial
  rw [own_law i0] at h3 hq
  refine ⟨n, _, h1, h2, h3, hpost _ _ _ _ _ _ ⟨Cond.after_iff.mpr rfl, Cond.after_iff.mpr (eq_i res_at (Term.int_eval (1)) rfl), trivial⟩ ⟨hq.1, hq.2.1, (hq.2.2.sift fun y hy => Or.inr (N y hy)).mono (by decide) (by decide)⟩⟩
theorem main_1_1 : Claimed_1_1 := comes_1 fun _ _ _ _ _ _ h hF => ⟨h.1, hF⟩
theorem main_1_2 : Claimed_1_2 := comes_1 fun _ _ _ _ _ _ h hF => ⟨h.2.1, hF⟩
end Jvm.Pilot.@@N@@
namespace Jvm.Pilot.@@N@@
open Jvm Jvm.ClassFile Sem Op Lib Jvm.Free Jvm.Stand Jvm.Pilot.@@N@@.Jvm.D
/-! MADE BY PROGRAM (witnessworld.py) out of the Statement's table words and the real class files: 10 classes; the members and pool entries that the words name. The judged class is class 1, her method 1. -/
namespace start1
open Jvm.ClassFile
def u (s : String) : CpInfo := .utf8 (stringToUtf16 s)
/-- a pool by its gaps: so many unusable entries, then the entry; so many at the end -/
def gap : Nat → List CpInfo → List CpInfo
  | 0, r => r
  | n + 1, r => .unusable :: gap n r
def poolList (es : List (Nat × CpInfo)) (last : Nat) : List CpInfo := es.foldr (fun e r => gap e.1 (e.2 :: r)) (gap last [])
def pool (es : List (Nat × CpInfo)) (last : Nat) : Array CpInfo := ⟨poolList es last⟩
def fileOf (pool : Array CpInfo) (this : Nat) (attrs : Array Attribute := #[]) (ms : Array MethodInfo := #[]) (fl : Nat := 33) (sup : Nat := 0) (ifs : Array Nat := #[]) (fds : Array FieldInfo := #[]) : ClassFile where
  minorVersion := 0
  majorVersion := 65
  constantPool := pool
  accessFlags := fl
  thisClass := this
  superClass := sup
  interfaces := ifs
  fields := fds
  methods := ms
  attributes := attrs
def plain (name : String) (sup : Option ClassId) : Class where
  name := name
  kind := .ordinary
  loader := none
  accessFlags := 33
  super := sup
  interfaces := #[]
  cf := none
  fields := #[]
  methods := #[]
  instanceTypes := #[]
  staticTypes := #[]
  resolved := #[]
  callSites := []
  init := .initialized
  statics := none
  mirror := none

def pool0 : Array CpInfo := pool [(5, u "<init>"), (0, u "()V"), (1, .class_ 10), (1, u "java/lang/Object")] 113

def k0m0 : Method := { name := "<init>", desc := "()V", sig := { parameters := [], returnType := none }, accessFlags := 1, code := none }
/-- java/lang/Object -/
def k0 : Class := { plain "java/lang/Object" none with
  accessFlags := 33
  interfaces := #[]
  cf := some (fileOf pool0 8 #[] #[{ accessFlags := 1, nameIndex := 5, descriptorIndex := 6, attributes := #[] }] 33 0 #[] #[])
  fields := #[]
  methods := #[k0m0]
  instanceTypes := #[]
  staticTypes := #[]
  resolved := Array.replicate 124 none
  statics := none }

def pool1 : Array CpInfo := pool [(2, .class_ 4), (1, u "java/lang/Object"), (0, u "<init>"), (0, u "()V"), (0, .integer 2147483647), (0, .methodref 9 10), (0, .class_ 11), (0, .nameAndType 12 13), (0, u "java/lang/Math"), (0, u "max"), (0, u "(II)I"), (0, .methodref 15 16), (0, .class_ 17), (0, .nameAndType 18 19), (0, u "com/example/instance_picker/instancepicker/Strategy"), (0, u "checkedVirtualNodes"), (0, u "(I)I"), (0, .class_ 21), (0, u "com/example/instance_picker/instancepicker/StrategyCheckedVirtualNodesPinLaw"), (2, u "law"), (0, u "(I)Z")] 3

def k1m0 : Method := { name := "<init>", desc := "()V", sig := { parameters := [], returnType := none }, accessFlags := 2, code := none }
def k1c1 : Code := { maxStack := 3, maxLocals := 3, code := code, exceptionTable := #[], attributes := #[] }
def k1m1 : Method := { name := "law", desc := "(I)Z", sig := { parameters := [.int], returnType := some .boolean }, accessFlags := 9, code := some k1c1 }
/-- com/example/instance_picker/instancepicker/StrategyCheckedVirtualNodesPinLaw -/
def k1 : Class := { plain "com/example/instance_picker/instancepicker/StrategyCheckedVirtualNodesPinLaw" (some 0) with
  accessFlags := 49
  interfaces := #[]
  cf := some (fileOf pool1 20 #[] #[{ accessFlags := 2, nameIndex := 5, descriptorIndex := 6, attributes := #[] }, { accessFlags := 9, nameIndex := 24, descriptorIndex := 25, attributes := #[] }] 49 2 #[] #[])
  fields := #[]
  methods := #[k1m0, k1m1]
  instanceTypes := #[]
  staticTypes := #[]
  resolved := Array.replicate 29 none
  statics := none }

def pool2 : Array CpInfo := pool [(1, .class_ 2), (0, u "java/lang/Math"), (1, .class_ 6), (1, u "java/lang/Object"), (0, u "<init>"), (0, u "()V"), (89, .class_ 100), (1, u "java/lang/Math$RandomNumberGeneratorHolder"), (71, u "negativeZeroFloatBits"), (0, u "J"), (2, u "negativeZeroDoubleBits"), (21, u "max"), (46, u "$assertionsDisabled"), (0, u "Z"), (88, u "(II)I"), (2, u "twoToTheDoubleScaleDown"), (0, u "D"), (4, u "twoToTheDoubleScaleUp"), (9, u "E"), (3, u "PI"), (2, u "TAU"), (2, u "DEGREES_TO_RADIANS"), (0, u "RADIANS_TO_DEGREES")] 94

def k2m0 : Method := { name := "<init>", desc := "()V", sig := { parameters := [], returnType := none }, accessFlags := 2, code := none }
def k2c1 : Code := { maxStack := 2, maxLocals := 2, code := jdk_29_method_65_code, exceptionTable := #[], attributes := #[] }
def k2m1 : Method := { name := "max", desc := "(II)I", sig := { parameters := [.int, .int], returnType := some .int }, accessFlags := 9, code := some k2c1 }
/-- java/lang/Math -/
def k2 : Class := { plain "java/lang/Math" (some 0) with
  accessFlags := 49
  interfaces := #[]
  cf := some (fileOf pool2 1 #[.nestMembers #[98]] #[{ accessFlags := 2, nameIndex := 7, descriptorIndex := 8, attributes := #[] }, { accessFlags := 9, nameIndex := 198, descriptorIndex := 335, attributes := #[] }] 49 4 #[] #[{ accessFlags := 25, nameIndex := 354, descriptorIndex := 339, attributes := #[] }, { accessFlags := 25, nameIndex := 358, descriptorIndex := 339, attributes := #[] }, { accessFlags := 25, nameIndex := 361, descriptorIndex := 339, attributes := #[] }, { accessFlags := 26, nameIndex := 364, descriptorIndex := 339, attributes := #[] }, { accessFlags := 26, nameIndex := 365, descriptorIndex := 339, attributes := #[] }, { accessFlags := 26, nameIndex := 172, descriptorIndex := 173, attributes := #[] }, { accessFlags := 26, nameIndex := 176, descriptorIndex := 173, attributes := #[] }, { accessFlags := 8, nameIndex := 344, descriptorIndex := 339, attributes := #[] }, { accessFlags := 8, nameIndex := 338, descriptorIndex := 339, attributes := #[] }, { accessFlags := 4120, nameIndex := 245, descriptorIndex := 246, attributes := #[] }])
  fields := #[{ name := "E", type := .double, accessFlags := 25, slot := 0, constantValue := 0 }, { name := "PI", type := .double, accessFlags := 25, slot := 1, constantValue := 0 }, { name := "TAU", type := .double, accessFlags := 25, slot := 2, constantValue := 0 }, { name := "DEGREES_TO_RADIANS", type := .double, accessFlags := 26, slot := 3, constantValue := 0 }, { name := "RADIANS_TO_DEGREES", type := .double, accessFlags := 26, slot := 4, constantValue := 0 }, { name := "negativeZeroFloatBits", type := .long, accessFlags := 26, slot := 5, constantValue := 0 }, { name := "negativeZeroDoubleBits", type := .long, accessFlags := 26, slot := 6, constantValue := 0 }, { name := "twoToTheDoubleScaleUp", type := .double, accessFlags := 8, slot := 7, constantValue := 0 }, { name := "twoToTheDoubleScaleDown", type := .double, accessFlags := 8, slot := 8, constantValue := 0 }, { name := "$assertionsDisabled", type := .boolean, accessFlags := 4120, slot := 9, constantValue := 0 }]
  methods := #[k2m0, k2m1]
  instanceTypes := #[]
  staticTypes := #[.double, .double, .double, .double, .double, .long, .long, .double, .double, .boolean]
  resolved := Array.replicate 460 none
  statics := none }

def pool3 : Array CpInfo := pool [(6, u "Lcom/example/instance_picker/instancepicker/ResponseTimeKeeping;"), (1, .class_ 10), (1, u "com/example/instance_picker/instancepicker/Strategy"), (4, u "NO_LIMIT"), (0, u "Ljava/util/function/Consumer;"), (2, u "NO_KEY"), (0, u "[I"), (5, u "THREAD_LOCAL_RANDOM"), (0, u "Lcom/example/instance_picker/instancepicker/Strategy$RandomSource;"), (4, u "Lcom/example/instance_picker/instancepicker/WarmUp;"), (10, .class_ 45), (1, u "java/lang/Object"), (3, u "name"), (0, u "Ljava/lang/String;"), (2, u "newSelector"), (0, u "Lcom/example/instance_picker/instancepicker/Strategy$SelectorBuilder;"), (2, u "limit"), (2, u "keyPositions"), (2, u "responseTimes"), (2, u "random"), (2, u "warmUp"), (2, u "within"), (0, u "Ljava/util/List;"), (2, u "WEIGHTED_RANDOM"), (0, u "Lcom/example/instance_picker/instancepicker/Strategy;"), (6, u "SMOOTH_WEIGHTED_ROUND_ROBIN"), (2, u "LEAST_ACTIVE"), (2, u "WEIGHTED_LEAST_ACTIVE"), (2, u "POWER_OF_TWO_CHOICES"), (2, u "POWER_OF_TWO_CHOICES_ON_RESPONSE_TIME"), (19, u "SHORTEST_RESPONSE"), (15, u "checkedVirtualNodes"), (0, u "(I)I"), (102, .class_ 238), (1, u "com/example/instance_picker/instancepicker/Strategy$RandomSource"), (3, .class_ 244), (1, u "com/example/instance_picker/instancepicker/Strategy$SelectorBuilder"), (3, u "SYSTEM_CLOCK"), (0, u "Ljava/util/function/LongSupplier;"), (40, .class_ 291), (0, u "com/example/instance_picker/instancepicker/Strategy$Within"), (166, u "DEFAULT_RESPONSE_WINDOW"), (0, u "Ljava/time/Duration;"), (4, u "DEFAULT_DECAY_TIME_CONSTANT"), (36, u "DEFAULT_VIRTUAL_NODES_PER_WEIGHT"), (0, u "I"), (2, u "KEY_SEPARATOR"), (0, u "C"), (61, .class_ 569), (0, u "com/example/instance_picker/instancepicker/Strategy$Fallback")] 131

def k3c0 : Code := { maxStack := 3, maxLocals := 1, code := prog_36_method_39_code, exceptionTable := #[], attributes := #[] }
def k3m0 : Method := { name := "checkedVirtualNodes", desc := "(I)I", sig := { parameters := [.int], returnType := some .int }, accessFlags := 8, code := some k3c0 }
/-- com/example/instance_picker/instancepicker/Strategy -/
def k3 : Class := { plain "com/example/instance_picker/instancepicker/Strategy" (some 0) with
  accessFlags := 49
  interfaces := #[]
  cf := some (fileOf pool3 8 #[.nestMembers #[236, 242, 290, 568]] #[{ accessFlags := 8, nameIndex := 132, descriptorIndex := 133, attributes := #[] }] 49 43 #[] #[{ accessFlags := 25, nameIndex := 501, descriptorIndex := 502, attributes := #[] }, { accessFlags := 25, nameIndex := 458, descriptorIndex := 459, attributes := #[] }, { accessFlags := 25, nameIndex := 464, descriptorIndex := 459, attributes := #[] }, { accessFlags := 26, nameIndex := 19, descriptorIndex := 20, attributes := #[] }, { accessFlags := 26, nameIndex := 505, descriptorIndex := 506, attributes := #[] }, { accessFlags := 26, nameIndex := 15, descriptorIndex := 16, attributes := #[] }, { accessFlags := 26, nameIndex := 248, descriptorIndex := 249, attributes := #[] }, { accessFlags := 26, nameIndex := 26, descriptorIndex := 27, attributes := #[] }, { accessFlags := 26, nameIndex := 76, descriptorIndex := 77, attributes := #[] }, { accessFlags := 26, nameIndex := 84, descriptorIndex := 77, attributes := #[] }, { accessFlags := 26, nameIndex := 87, descriptorIndex := 77, attributes := #[] }, { accessFlags := 26, nameIndex := 90, descriptorIndex := 77, attributes := #[] }, { accessFlags := 26, nameIndex := 93, descriptorIndex := 77, attributes := #[] }, { accessFlags := 26, nameIndex := 116, descriptorIndex := 77, attributes := #[] }, { accessFlags := 26, nameIndex := 96, descriptorIndex := 77, attributes := #[] }, { accessFlags := 18, nameIndex := 49, descriptorIndex := 50, attributes := #[] }, { accessFlags := 18, nameIndex := 53, descriptorIndex := 54, attributes := #[] }, { accessFlags := 18, nameIndex := 57, descriptorIndex := 16, attributes := #[] }, { accessFlags := 18, nameIndex := 60, descriptorIndex := 20, attributes := #[] }, { accessFlags := 18, nameIndex := 63, descriptorIndex := 6, attributes := #[] }, { accessFlags := 18, nameIndex := 66, descriptorIndex := 27, attributes := #[] }, { accessFlags := 18, nameIndex := 69, descriptorIndex := 32, attributes := #[] }, { accessFlags := 18, nameIndex := 72, descriptorIndex := 73, attributes := #[] }])
  fields := #[{ name := "DEFAULT_VIRTUAL_NODES_PER_WEIGHT", type := .int, accessFlags := 25, slot := 0, constantValue := 0 }, { name := "DEFAULT_RESPONSE_WINDOW", type := (.object "java/time/Duration"), accessFlags := 25, slot := 1, constantValue := 0 }, { name := "DEFAULT_DECAY_TIME_CONSTANT", type := (.object "java/time/Duration"), accessFlags := 25, slot := 2, constantValue := 0 }, { name := "NO_KEY", type := (.array .int), accessFlags := 26, slot := 3, constantValue := 0 }, { name := "KEY_SEPARATOR", type := .char, accessFlags := 26, slot := 4, constantValue := 0 }, { name := "NO_LIMIT", type := (.object "java/util/function/Consumer"), accessFlags := 26, slot := 5, constantValue := 0 }, { name := "SYSTEM_CLOCK", type := (.object "java/util/function/LongSupplier"), accessFlags := 26, slot := 6, constantValue := 0 }, { name := "THREAD_LOCAL_RANDOM", type := (.object "com/example/instance_picker/instancepicker/Strategy$RandomSource"), accessFlags := 26, slot := 7, constantValue := 0 }, { name := "WEIGHTED_RANDOM", type := (.object "com/example/instance_picker/instancepicker/Strategy"), accessFlags := 26, slot := 8, constantValue := 0 }, { name := "SMOOTH_WEIGHTED_ROUND_ROBIN", type := (.object "com/example/instance_picker/instancepicker/Strategy"), accessFlags := 26, slot := 9, constantValue := 0 }, { name := "LEAST_ACTIVE", type := (.object "com/example/instance_picker/instancepicker/Strategy"), accessFlags := 26, slot := 10, constantValue := 0 }, { name := "WEIGHTED_LEAST_ACTIVE", type := (.object "com/example/instance_picker/instancepicker/Strategy"), accessFlags := 26, slot := 11, constantValue := 0 }, { name := "POWER_OF_TWO_CHOICES", type := (.object "com/example/instance_picker/instancepicker/Strategy"), accessFlags := 26, slot := 12, constantValue := 0 }, { name := "SHORTEST_RESPONSE", type := (.object "com/example/instance_picker/instancepicker/Strategy"), accessFlags := 26, slot := 13, constantValue := 0 }, { name := "POWER_OF_TWO_CHOICES_ON_RESPONSE_TIME", type := (.object "com/example/instance_picker/instancepicker/Strategy"), accessFlags := 26, slot := 14, constantValue := 0 }, { name := "name", type := (.object "java/lang/String"), accessFlags := 18, slot := 0, constantValue := 0 }, { name := "newSelector", type := (.object "com/example/instance_picker/instancepicker/Strategy$SelectorBuilder"), accessFlags := 18, slot := 1, constantValue := 0 }, { name := "limit", type := (.object "java/util/function/Consumer"), accessFlags := 18, slot := 2, constantValue := 0 }, { name := "keyPositions", type := (.array .int), accessFlags := 18, slot := 3, constantValue := 0 }, { name := "responseTimes", type := (.object "com/example/instance_picker/instancepicker/ResponseTimeKeeping"), accessFlags := 18, slot := 4, constantValue := 0 }, { name := "random", type := (.object "com/example/instance_picker/instancepicker/Strategy$RandomSource"), accessFlags := 18, slot := 5, constantValue := 0 }, { name := "warmUp", type := (.object "com/example/instance_picker/instancepicker/WarmUp"), accessFlags := 18, slot := 6, constantValue := 0 }, { name := "within", type := (.object "java/util/List"), accessFlags := 18, slot := 7, constantValue := 0 }]
  methods := #[k3m0]
  instanceTypes := #[(.object "java/lang/String"), (.object "com/example/instance_picker/instancepicker/Strategy$SelectorBuilder"), (.object "java/util/function/Consumer"), (.array .int), (.object "com/example/instance_picker/instancepicker/ResponseTimeKeeping"), (.object "com/example/instance_picker/instancepicker/Strategy$RandomSource"), (.object "com/example/instance_picker/instancepicker/WarmUp"), (.object "java/util/List")]
  staticTypes := #[.int, (.object "java/time/Duration"), (.object "java/time/Duration"), (.array .int), .char, (.object "java/util/function/Consumer"), (.object "java/util/function/LongSupplier"), (.object "com/example/instance_picker/instancepicker/Strategy$RandomSource"), (.object "com/example/instance_picker/instancepicker/Strategy"), (.object "com/example/instance_picker/instancepicker/Strategy"), (.object "com/example/instance_picker/instancepicker/Strategy"), (.object "com/example/instance_picker/instancepicker/Strategy"), (.object "com/example/instance_picker/instancepicker/Strategy"), (.object "com/example/instance_picker/instancepicker/Strategy"), (.object "com/example/instance_picker/instancepicker/Strategy")]
  resolved := Array.replicate 701 none
  statics := none }

def pool4 : Array CpInfo := pool [(1, u "java/lang/Cloneable"), (0, .class_ 1), (0, u "java/lang/Object"), (0, .class_ 3)] 3

/-- java/lang/Cloneable -/
def k4 : Class := { plain "java/lang/Cloneable" (some 0) with
  accessFlags := 1537
  interfaces := #[]
  cf := some (fileOf pool4 2 #[] #[] 1537 4 #[] #[])
  fields := #[]
  methods := #[]
  instanceTypes := #[]
  staticTypes := #[]
  resolved := Array.replicate 8 none
  statics := none }

def pool5 : Array CpInfo := pool [(1, u "java/io/Serializable"), (0, .class_ 1), (0, u "java/lang/Object"), (0, .class_ 3)] 3

/-- java/io/Serializable -/
def k5 : Class := { plain "java/io/Serializable" (some 0) with
  accessFlags := 1537
  interfaces := #[]
  cf := some (fileOf pool5 2 #[] #[] 1537 4 #[] #[])
  fields := #[]
  methods := #[]
  instanceTypes := #[]
  staticTypes := #[]
  resolved := Array.replicate 8 none
  statics := none }

/-- the primitive byte -/
def k6 : Class := { plain "byte" none with kind := .primitive 'B', accessFlags := 0x411 }
/-- [B -/
def k7 : Class := { plain "[B" (some 0) with kind := .array 6 .byte, interfaces := #[4, 5], accessFlags := 1041 }

/-- the primitive int -/
def k8 : Class := { plain "int" none with kind := .primitive 'I', accessFlags := 0x411 }
/-- [I -/
def k9 : Class := { plain "[I" (some 0) with kind := .array 8 .int, interfaces := #[4, 5], accessFlags := 1041 }

def heap : Heap := #[]
def classes : Array Class := #[k0, k1, k2, k3, k4, k5, k6, k7, k8, k9]
def interned : List (Array UInt16 × Addr) := []
def slotsUsed : Nat := 0
def theMethod : MethodId := ⟨1, 1⟩
def args0 : Array Value := #[.int 5]
def aboutOver (below : List Frame) : State where
  vm := { classes := classes, interned := interned.toArray }
  heap := heap
  slotsUsed := slotsUsed
  threads := #[{ frames := .invoking theMethod args0 :: below }]
def below0 : List Frame := [.native { method := ⟨0, 0⟩, args := #[] }]
def about1 : State := aboutOver below0
def p0 : Program := .bare "" "" ""
def e0 : Env := launch0.env 0 0 0
theorem w_frames : about1.frames = Frame.invoking theMethod args0 :: below0 := rfl
set_option maxRecDepth 65536 in
theorem w_args : argsFit about1.vm theMethod args0 = true := by decide +kernel
set_option maxRecDepth 65536 in
theorem w_heap : heapFits about1 = true := by decide +kernel
set_option maxRecDepth 65536 in
theorem w_runnable : about1.curStatus? = some .runnable := by decide +kernel
set_option maxRecDepth 65536 in
theorem w_alone : about1.alone = true := by decide +kernel
set_option maxRecDepth 65536 in
theorem w_named : about1.methodNamed? x = some theMethod := by decide +kernel
set_option maxRecDepth 65536 in
theorem w_hears : about1.hears theMethod below0 = true := by decide +kernel
set_option maxRecDepth 65536 in
theorem w_ripe : about1.ripe theMethod args0 below0 = true := by decide +kernel
theorem w_running : about1.status = .running := rfl
set_option maxRecDepth 65536 in
theorem w_room : about1.hasRoom e0.platform room_1 = true :=
  launch0.hasRoom_least _ room_1 (by decide +kernel) (by decide +kernel) (by decide +kernel) (by decide +kernel) (by decide +kernel) (by decide +kernel)
theorem allAtoms_all (ts : List Jvm.Cond) (a : Array Jvm.Value) (st : Jvm.State) : (allAtoms ts).before a st = ts.all (fun c => c.before a st) := by
  induction ts with
  | nil => rfl
  | cons c t ih =>
    show (Jvm.Cond.and c (allAtoms t)).before a st = _
    rw [Jvm.Cond.before_and, ih, List.all_cons]
def words1 : List Jvm.Cond := Jvm.Cond.code x code maxLocals ret :: tables_1
/-- a 'code' word, met by the world's own term for the bytes: nothing is compared byte by byte -/
theorem code_word {y : MethodName} {bytes : ByteArray} {mx : Nat} {rt : Option FieldType} {a : Array Value} {s : State} {m : MethodId} {meth : Method} {c : Code} (h1 : s.methodNamed? y = some m) (h2 : s.vm.method? m = some meth) (h3 : meth.code = some c) (h4 : c.code = bytes)
    (h5 : (c.maxLocals == mx && c.exceptionTable.isEmpty && decide (c.maxStack ≤ mostOperands) && decide (meth.sig.returnType = rt) && !meth.locks && decide (parseMethodDescriptor y.desc = some meth.sig)) = true) : (Jvm.Cond.code y bytes mx rt).before a s = true := by
  simp only [Bool.and_eq_true, beq_iff_eq, Bool.not_eq_true', decide_eq_true_eq] at h5
  obtain ⟨⟨⟨⟨⟨g1, g2⟩, g3⟩, g4⟩, g5⟩, g6⟩ := h5
  simp [Cond.before, Cond.holds, Cond.value, h1, h2, h3, h4, g1, g2, g3, g4, g5, g6]
def isCode : Jvm.Cond → Bool
  | .code _ _ _ _ => true
  | _ => false
theorem all_split {L : List Jvm.Cond} {P : Jvm.Cond → Bool} (h1 : L.all (fun c => isCode c || P c) = true) (h2 : ∀ c ∈ L.filter isCode, P c = true) : L.all P = true := by
  refine List.all_eq_true.mpr fun c hc => ?_
  have h := List.all_eq_true.mp h1 c hc
  rcases Bool.eq_false_or_eq_true (isCode c) with hi | hi
  · exact h2 c (List.mem_filter.mpr ⟨hc, hi⟩)
  · simpa [hi] using h
set_option maxRecDepth 65536 in
theorem w_c0 : (Jvm.Cond.code x code maxLocals ret).before args0 about1 = true := code_word (m := ⟨1, 1⟩) (meth := k1m1) (c := k1c1) (by decide +kernel) rfl rfl rfl (by decide +kernel)
set_option maxRecDepth 65536 in
theorem w_c1 : (Jvm.Cond.code ({ cls := "java/lang/Math", name := "max", desc := "(II)I" } : Jvm.MethodName) jdk_29_method_65_code (2 : Nat) (Option.some Jvm.ClassFile.FieldType.int)).before args0 about1 = true := code_word (m := ⟨2, 1⟩) (meth := k2m1) (c := k2c1) (by decide +kernel) rfl rfl rfl (by decide +kernel)
set_option maxRecDepth 65536 in
theorem w_c2 : (Jvm.Cond.code ({ cls := "com/example/instance_picker/instancepicker/Strategy", name := "checkedVirtualNodes", desc := "(I)I" } : Jvm.MethodName) prog_36_method_39_code (1 : Nat) (Option.some Jvm.ClassFile.FieldType.int)).before args0 about1 = true := code_word (m := ⟨3, 0⟩) (meth := k3m0) (c := k3c0) (by decide +kernel) rfl rfl rfl (by decide +kernel)
def codes1 : List Jvm.Cond := [Jvm.Cond.code x code maxLocals ret, Jvm.Cond.code ({ cls := "java/lang/Math", name := "max", desc := "(II)I" } : Jvm.MethodName) jdk_29_method_65_code (2 : Nat) (Option.some Jvm.ClassFile.FieldType.int), Jvm.Cond.code ({ cls := "com/example/instance_picker/instancepicker/Strategy", name := "checkedVirtualNodes", desc := "(I)I" } : Jvm.MethodName) prog_36_method_39_code (1 : Nat) (Option.some Jvm.ClassFile.FieldType.int)]
set_option maxRecDepth 65536 in
theorem codes_eq : words1.filter isCode = codes1 := rfl
theorem w_codes : ∀ c ∈ words1.filter isCode, c.before args0 about1 = true := by
  rw [codes_eq]
  intro c hc
  simp only [codes1, List.mem_cons, List.not_mem_nil, or_false] at hc
  rcases hc with rfl | rfl | rfl
  · exact w_c0
  · exact w_c1
  · exact w_c2
set_option maxRecDepth 65536 in
theorem w_t1 : words1.all (fun c => isCode c || c.before args0 about1) = true := by decide +kernel
theorem w_tables : (allAtoms (Jvm.Cond.code x code maxLocals ret :: tables_1)).before args0 about1 = true := by
  rw [allAtoms_all]
  show words1.all (fun c => c.before args0 about1) = true
  refine all_split ?_ w_codes
  rw [w_t1]
set_option maxRecDepth 65536 in
theorem w_case : (Jvm.Cond.and given_1 narrow_1).before args0 about1 = true := by decide +kernel
theorem w_applies : (headSpec (Jvm.Cond.code x code maxLocals ret :: tables_1) room_1).applies x e0.platform about1 = true :=
  (Spec.applies_iff w_frames).mpr ⟨w_running, w_runnable, w_alone, w_named, w_hears, w_ripe, w_room, w_tables⟩
theorem atStart : AtStart classFile x code maxLocals ret World_1 tables_1 room_1 Calls_1 rest_1 Pre_1 launch0 p0 e0 about1 theMethod args0 below0 :=
  ⟨lists_1, trivial, launch0.admits_env _ _ _, launch0.least_env, fairChoices_fair.cas, fairChoices_fair.clock, w_frames, w_args, w_heap, w_applies, trivial, trivial, w_case⟩
end start1
theorem witness_1 : WitnessClaimed_1 := ⟨start1.p0, start1.e0, start1.about1, start1.theMethod, start1.args0, start1.below0, start1.atStart⟩
end Jvm.Pilot.@@N@@
