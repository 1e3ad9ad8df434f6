import JvmDerived
import JvmDerived.Pilot.@@N@@Statement
import JvmDerived.Pilot.@@N@@Code
set_option linter.unusedVariables false
set_option linter.unusedSimpArgs false
@@BLOCK:NumsL.lean.txt@@
namespace Jvm.RoadKit
open Sem ClassFile Op Lib Jvm.Stand Jvm.Free Jvm.LawKit
section New
variable {p : Program} {l : Launch} {e : Env} {R : Room} {s : State} {m : MethodId} {args : Array Value} {below : List Frame} {meth : Method} {c : Code} {T : State} {locs : List Loc} {cells slots : Nat}
theorem retI (X : Stand p l e R s m args below meth c T locs cells slots) (hx : p.tables.exec = Jvm.exec) {pc : Nat} {Ls : Array Slot} {z : Int32} {rest : List Value} (hret : meth.sig.returnType = some .int) (hd : decode c.code pc = .ok (.ireturn, 1)) {fs : List Frame}
    (hl : ∀ (f : JFrame) (acts : List Action), f.method = m → f.locked = none → f.entered = [] → (doReturn e (T.setTop f) acts (some (.int z))).1 = T.setFrames fs) : Steps p.tables e below (T.setTop (mkF m pc Ls (.int z :: rest))) (T.setFrames fs) := by
  have hm' : T.vm.method? m = some meth := X.method'
  have hn : narrow .int (.int z) = .int z := rfl
  show Steps p.tables e below (T.setTop { method := m, pc := pc, locals := Ls, stack := _ :: rest, locked := none }) _
  jvm_step X.here [X.here.top, hx, hd, hm', hret, hn]
  first | (intro acts; rw [hl _ acts rfl rfl rfl]) | rw [hl _ _ rfl rfl rfl]
  exact Steps.refl _
/-- the run from A comes to a return of which F says the value, the heap and the written places -/
def own_Goes (p : Program) (e : Env) (below : List Frame) (s : State) (F : Option Value → Heap → List Loc → Prop) (k n : Nat) (A : State) : Prop :=
  ∃ s₂ o, Steps p.tables e below A s₂ ∧ s₂.status = .running ∧ Ended s₂ below o ∧ ∃ v L, o = .returned v ∧ F v s₂.heap L ∧ FrameEnd s o s₂ L k n
variable {F : Option Value → Heap → List Loc → Prop} {k n : Nat}
theorem own_Goes.step {A B : State} (h : ∀ t, Steps p.tables e below B t → Steps p.tables e below A t) (g : own_Goes p e below s F k n B) : own_Goes p e below s F k n A := by
  obtain ⟨s₂, o, h1, h2⟩ := g
  exact ⟨s₂, o, h _ h1, h2⟩
theorem own_endI (X : Stand p l e R s m args below meth c T locs cells slots) (hx : p.tables.exec = Jvm.exec) (hlk : meth.locks = false) {pc : Nat} {Ls : Array Slot} {z : Int32} {rest : List Value} (hret : meth.sig.returnType = some .int) (hd : decode c.code pc = .ok (.ireturn, 1)) (hF : F (some (.int z)) T.heap locs) (hk : cells ≤ k) (hn : slots ≤ n) :
    own_Goes p e below s F k n (T.setTop (mkF m pc Ls (.int z :: rest))) := by
  obtain ⟨fs, hr, hrun, hended, hW, hsame⟩ := X.leave (v := some (.int z)) (fun h => by rw [hret] at h; cases h) hlk
  exact ⟨_, _, retI X hx hret hd hr, hrun, hended, _, _, rfl, hF, ⟨_, rfl⟩, hW, hsame.mono hk hn⟩
theorem own_endN (X : Stand p l e R s m args below meth c T locs cells slots) (hx : p.tables.exec = Jvm.exec) (hlk : meth.locks = false) {pc : Nat} {Ls : Array Slot} {z : Int32} {t : FieldType} {rest : List Value} (hret : meth.sig.returnType = some t) (ht : t = .boolean ∨ t = .byte ∨ t = .char ∨ t = .short) (hd : decode c.code pc = .ok (.ireturn, 1)) (hF : F (some (.int (nar t z))) T.heap locs) (hk : cells ≤ k) (hn : slots ≤ n) :
    own_Goes p e below s F k n (T.setTop (mkF m pc Ls (.int z :: rest))) := by
  obtain ⟨fs, hr, hrun, hended, hW, hsame⟩ := X.leave (v := some (.int (nar t z))) (fun h => by rw [hret] at h; cases h) hlk
  exact ⟨_, _, retN X hx hret ht hd hr, hrun, hended, _, _, rfl, hF, ⟨_, rfl⟩, hW, hsame.mono hk hn⟩
theorem own_endJ (X : Stand p l e R s m args below meth c T locs cells slots) (hx : p.tables.exec = Jvm.exec) (hlk : meth.locks = false) {pc : Nat} {Ls : Array Slot} {z : Int64} (hret : meth.sig.returnType = some .long) (hd : decode c.code pc = .ok (.lreturn, 1)) (hF : F (some (.long z)) T.heap locs) (hk : cells ≤ k) (hn : slots ≤ n) :
    own_Goes p e below s F k n (T.setTop (mkF m pc Ls [.long z])) := by
  obtain ⟨fs, hr, hrun, hended, hW, hsame⟩ := X.leave (v := some (.long z)) (fun h => by rw [hret] at h; cases h) hlk
  exact ⟨_, _, X.lreturnOut hx hret hd hr, hrun, hended, _, _, rfl, hF, ⟨_, rfl⟩, hW, hsame.mono hk hn⟩
theorem own_endV (X : Stand p l e R s m args below meth c T locs cells slots) (hx : p.tables.exec = Jvm.exec) (hlk : meth.locks = false) {pc : Nat} {Ls : Array Slot} (hret : meth.sig.returnType = none) (hd : decode c.code pc = .ok (.return_, 1)) (hF : F none T.heap locs) (hk : cells ≤ k) (hn : slots ≤ n) :
    own_Goes p e below s F k n (T.setTop (mkF m pc Ls [])) := by
  obtain ⟨fs, hr, hrun, hended, hW, hsame⟩ := X.leave (v := none) (fun _ => rfl) hlk
  exact ⟨_, _, X.returnOut hx hret hd hr, hrun, hended, _, _, rfl, hF, ⟨_, rfl⟩, hW, hsame.mono hk hn⟩
theorem own_endA (X : Stand p l e R s m args below meth c T locs cells slots) (hx : p.tables.exec = Jvm.exec) (hlk : meth.locks = false) {pc : Nat} {Ls : Array Slot} {w : Value} {t : FieldType} (hw : w.isRef = true) (hret : meth.sig.returnType = some t) (ht : t.isReference = true) (hd : decode c.code pc = .ok (.areturn, 1)) (hF : F (some w) T.heap locs) (hk : cells ≤ k) (hn : slots ≤ n) :
    own_Goes p e below s F k n (T.setTop (mkF m pc Ls [w])) := by
  obtain ⟨fs, hr, hrun, hended, hW, hsame⟩ := X.leave (v := some w) (fun h => by rw [hret] at h; cases h) hlk
  exact ⟨_, _, X.areturnOut hx hw hret ht hd hr, hrun, hended, _, _, rfl, hF, ⟨_, rfl⟩, hW, hsame.mono hk hn⟩
theorem own_lrem (x y : Int64) : x - x / y * y = x % y := by
  refine Int64.toInt_inj.mp ?_
  rw [Jvm.Kit.i64_rem, Int64.toInt_mod]
theorem own_lremM {g : JFrame} {target : State} (X : Stand p l e R s m args below meth c T locs cells slots) (hx : p.tables.exec = Jvm.exec) (hg : g.method = m) {x y : Int64} {rest : List Value} (hd : decode c.code g.pc = .ok (.lrem, 1)) (hs : g.stack = .long y :: .long x :: rest) (hy : y ≠ 0)
    (hr : Steps p.tables e below (T.setTop { g with pc := g.pc + 1, stack := .long (x % y) :: rest }) target) : Steps p.tables e below (T.setTop g) target :=
  XT.lrem X.here hx hg hd hs hy (by rw [own_lrem]; exact hr)
/-- the three calls, by a contract in this family, carried forward -/
theorem own_stat {Z : State} {a0 : Array Value} {h : Heap} (X : Stand p l e R s m args below meth c T locs cells slots) (hx : p.tables.exec = Jvm.exec) (hZ : Z.Warmed39 s.vm) (eT : T.heap = h) {own : String} {index : Nat} {y : MethodName} {bytes : ByteArray} {maxL : Nat} {ret : Option FieldType} {rm : Room} {W : Nat} {argsL rest : List Value} {Q : Option Value → Heap → List Loc → Prop}
    (hown : s.vm.findClass own = some m.cls) (wl : (Cond.methodLink own index y).before a0 Z = true) (wst : (Cond.static y).before a0 Z = true) (wi : (Cond.initialized y.cls).before a0 Z = true) (wc : (Cond.code y bytes maxL ret).before a0 Z = true) (hy : y.cls ≠ "java/lang/invoke/MethodHandle" ∧ y.cls ≠ "java/lang/invoke/VarHandle")
    (hM : MetFree l y (head1 [Cond.code y bytes maxL ret] rm) (fun a U => a = argsL.toArray ∧ Z.Warmed39 U.vm ∧ U.heap = h) (fun _ _ _ _ _ => True) (fun _ U o U' => ∃ w L, o = .returned w ∧ Q w U'.heap L ∧ FrameEnd U o U' L rm.cells rm.slots))
    (hf : rm.frames + 1 ≤ R.frames) (hl : W + (maxL + 11) + rm.locals ≤ R.locals) (hcells : cells + rm.cells ≤ R.cells) (hslots : slots + rm.slots ≤ R.slots)
    {g : JFrame} (hg : g.method = m) (hsize : g.locals.size = c.maxLocals) (hlen : ∀ sig, parseMethodDescriptor y.desc = some sig → argsL.length = sig.parameters.length) (hstack : g.stack = argsL.reverse ++ rest) (hW : 2 * g.monitorRoom + (rest.map fun v => v.category).sum ≤ W) (hdg : decode c.code g.pc = .ok (.invokestatic index, 3)) :
    ∃ w T' L, Q w T'.heap L ∧ Stand p l e R s m args below meth c T' (locs ++ L) (cells + rm.cells) (slots + rm.slots) ∧ ∀ t, Steps p.tables e below (T'.setTop { g with pc := g.pc + 3, stack := w.toList ++ rest }) t → Steps p.tables e below (T.setTop g) t := by
  have hB := backOf (R := R) (p := p) (e := e) (below := below) (args := args) (len := 3) (W := W) (Q := Q) hM hZ wc wi hf hl
  obtain ⟨w, vm₁, ⟨U, Lc, k1, n1⟩, -, X', ⟨L, hQ, hL, hC, hS⟩, st⟩ := Jvm.LawKit.callS X hx (y := y) hown (mvT hZ wl) (mvT hZ wst) (mvT hZ wi) (mvT hZ wc) hy hB (g := g) hg hsize hlen hstack hW hdg (fun _ _ => ⟨rfl, eT, hcells, hslots⟩)
  dsimp only [Pt.U, Pt.locs, Pt.cells, Pt.slots] at X' hQ hL hC hS st
  subst hL hC hS
  exact ⟨w, U, L, hQ, X', st⟩
theorem own_spec {Z : State} {a0 : Array Value} {h : Heap} (X : Stand p l e R s m args below meth c T locs cells slots) (hx : p.tables.exec = Jvm.exec) (hZ : Z.Warmed39 s.vm) (eT : T.heap = h) {own : String} {index : Nat} {y : MethodName} {bytes : ByteArray} {maxL : Nat} {rm : Room} {W : Nat} {a : Addr} {argsL rest : List Value} {Q : Option Value → Heap → List Loc → Prop}
    (hy1 : y.name = "<init>") (hown : s.vm.findClass own = some m.cls) (wl : (Cond.methodLink own index y).before a0 Z = true) (wst : (Cond.instanceMethod y).before a0 Z = true) (wi : (Cond.initialized y.cls).before a0 Z = true) (wc : (Cond.code y bytes maxL none).before a0 Z = true) (hy : y.cls ≠ "java/lang/invoke/MethodHandle" ∧ y.cls ≠ "java/lang/invoke/VarHandle")
    (hM : MetFree l y (head1 [Cond.code y bytes maxL none] rm) (fun b U => b = (.ref a :: argsL).toArray ∧ Z.Warmed39 U.vm ∧ U.heap = h) (fun _ _ _ _ _ => True) (fun _ U o U' => ∃ w L, o = .returned w ∧ Q w U'.heap L ∧ FrameEnd U o U' L rm.cells rm.slots))
    (hf : rm.frames + 1 ≤ R.frames) (hl : W + (maxL + 11) + rm.locals ≤ R.locals) (hcells : cells + rm.cells ≤ R.cells) (hslots : slots + rm.slots ≤ R.slots)
    {g : JFrame} (hg : g.method = m) (hsize : g.locals.size = c.maxLocals) (hlen : ∀ sig, parseMethodDescriptor y.desc = some sig → argsL.length = sig.parameters.length) (hstack : g.stack = argsL.reverse ++ .ref a :: rest) (hW : 2 * g.monitorRoom + (rest.map fun v => v.category).sum ≤ W) (hdg : decode c.code g.pc = .ok (.invokespecial index, 3)) :
    ∃ w T' L, Q w T'.heap L ∧ Stand p l e R s m args below meth c T' (locs ++ L) (cells + rm.cells) (slots + rm.slots) ∧ ∀ t, Steps p.tables e below (T'.setTop { g with pc := g.pc + 3, stack := w.toList ++ rest }) t → Steps p.tables e below (T.setTop g) t := by
  have hB := backOf (R := R) (p := p) (e := e) (below := below) (args := args) (len := 3) (W := W) (Q := Q) hM hZ wc wi hf hl
  obtain ⟨w, vm₁, ⟨U, Lc, k1, n1⟩, -, X', ⟨L, hQ, hL, hC, hS⟩, st⟩ := X.specialBack hx (y := y) hy1 hown (mvT hZ wl) (mvT hZ wst) (mvT hZ wc) hy hB (g := g) hg hsize (Steps.refl _) (a := a) hlen hstack hW hdg (fun _ _ => ⟨rfl, eT, hcells, hslots⟩)
  dsimp only [Pt.U, Pt.locs, Pt.cells, Pt.slots] at X' hQ hL hC hS st
  subst hL hC hS
  exact ⟨w, U, L, hQ, X', fun t k => st.trans k⟩
theorem own_virt {Z : State} {a0 : Array Value} {h : Heap} (X : Stand p l e R s m args below meth c T locs cells slots) (hx : p.tables.exec = Jvm.exec) (hZ : Z.Warmed39 s.vm) (eT : T.heap = h) {own C : String} {index : Nat} {y : MethodName} {bytes : ByteArray} {maxL : Nat} {ret : Option FieldType} {rm : Room} {W : Nat} {a : Addr} {argsL rest : List Value} {Q : Option Value → Heap → List Loc → Prop}
    (E : Exa Z h a C) (hown : s.vm.findClass own = some m.cls) (wl : (Cond.methodLink own index y).before a0 Z = true) (wd : (Cond.declares y).before a0 Z = true) (ws : (Cond.selects C y y).before a0 Z = true) (wst : (Cond.instanceMethod y).before a0 Z = true) (wi : (Cond.initialized y.cls).before a0 Z = true) (wc : (Cond.code y bytes maxL ret).before a0 Z = true) (hy : y.cls ≠ "java/lang/invoke/MethodHandle" ∧ y.cls ≠ "java/lang/invoke/VarHandle")
    (hM : MetFree l y (head1 [Cond.code y bytes maxL ret] rm) (fun b U => b = (.ref a :: argsL).toArray ∧ Z.Warmed39 U.vm ∧ U.heap = h) (fun _ _ _ _ _ => True) (fun _ U o U' => ∃ w L, o = .returned w ∧ Q w U'.heap L ∧ FrameEnd U o U' L rm.cells rm.slots))
    (hf : rm.frames + 1 ≤ R.frames) (hl : W + (maxL + 11) + rm.locals ≤ R.locals) (hcells : cells + rm.cells ≤ R.cells) (hslots : slots + rm.slots ≤ R.slots)
    {g : JFrame} (hg : g.method = m) (hsize : g.locals.size = c.maxLocals) (hlen : ∀ sig, parseMethodDescriptor y.desc = some sig → argsL.length = sig.parameters.length) (hstack : g.stack = argsL.reverse ++ .ref a :: rest) (hW : 2 * g.monitorRoom + (rest.map fun v => v.category).sum ≤ W) (hdg : decode c.code g.pc = .ok (.invokevirtual index, 3)) :
    ∃ w T' L, Q w T'.heap L ∧ Stand p l e R s m args below meth c T' (locs ++ L) (cells + rm.cells) (slots + rm.slots) ∧ ∀ t, Steps p.tables e below (T'.setTop { g with pc := g.pc + 3, stack := w.toList ++ rest }) t → Steps p.tables e below (T.setTop g) t := by
  have hB := backOf (R := R) (p := p) (e := e) (below := below) (args := args) (len := 3) (W := W) (Q := Q) hM hZ wc wi hf hl
  obtain ⟨cq, kq, qa, qb, qc⟩ := isOf hZ eT E
  obtain ⟨w, vm₁, ⟨U, Lc, k1, n1⟩, -, X', ⟨L, hQ, hL, hC, hS⟩, st⟩ := X.virtualBack hx (y := y) (z := y) hown (mvT hZ wl) (mvT hZ wd) (notFace_of_selects (args := #[]) (mvT hZ ws)) (mvT hZ ws) (mvT hZ wst) hy hB qa qc (g := g) hg hsize (Steps.refl _) hlen hstack hW hdg (fun _ _ => ⟨rfl, eT, hcells, hslots⟩)
  dsimp only [Pt.U, Pt.locs, Pt.cells, Pt.slots] at X' hQ hL hC hS st
  subst hL hC hS
  exact ⟨w, U, L, hQ, X', fun t k => st.trans k⟩
/-- a call that left nothing behind -/
theorem own_clean {h : Heap} {w v : Option Value} {T' : State} {L : List Loc} {k0 n0 : Nat} (q : w = v ∧ L = [] ∧ T'.heap = h) (X : Stand p l e R s m args below meth c T' (locs ++ L) (cells + k0) (slots + n0)) (hk : k0 = 0) (hn : n0 = 0) : T'.heap = h ∧ Stand p l e R s m args below meth c T' locs cells slots := by
  obtain ⟨-, rfl, hh⟩ := q
  subst hk hn
  rw [List.append_nil] at X
  exact ⟨hh, X⟩
theorem own_nin {a b : Addr} (q : b ≠ a) : b ∉ [a] := fun h => q (List.mem_singleton.mp h)
theorem own_kt {h0 : Heap} {ws : List Addr} {a : Addr} (q : a ∈ ws ∨ h0.size ≤ a) : ∀ x ∈ [a], x ∈ ws ∨ h0.size ≤ x := fun x hx => by
  cases List.mem_singleton.mp hx; exact q
end New
end Jvm.RoadKit
namespace Jvm.Pilot.@@N@@
open Jvm Jvm.ClassFile Sem Op Lib Jvm.Free Jvm.Stand Jvm.LawKit Jvm.RoadKit Bundle Jvm.Pilot.@@N@@.Jvm.D
/-! plain facts on ints and longs -/
theorem own_char16 (u : UInt16) : (u.toUInt32.toInt32).toInt = u.toNat := by
  have h := u.toNat_lt
  show BitVec.toInt u.toUInt32.toBitVec = _
  rw [BitVec.toInt_eq_toNat_of_lt (by simp; omega)]
  simp
theorem own_char (y : Int32) : 0 ≤ (y.toUInt32.toUInt16.toUInt32.toInt32).toInt ∧ (y.toUInt32.toUInt16.toUInt32.toInt32).toInt < 65536 := by
  rw [own_char16]
  have h := y.toUInt32.toUInt16.toNat_lt
  omega
theorem own_fin32 {P : Int32 → Prop} (n : Nat) (h : ∀ k : Fin n, P (Int32.ofNat k)) (c : Int32) (h0 : 0 ≤ c.toInt) (h1 : c.toInt < n) : P c := by
  have e : c = Int32.ofNat c.toInt.toNat := by
    apply Int32.toInt_inj.mp
    have hb := c.toInt_lt
    rw [Int32.toInt_ofNat_of_lt (by omega)]
    omega
  rw [e]
  exact h ⟨c.toInt.toNat, by omega⟩
theorem own_lt32 (x y : Int32) : (x < y) ↔ x.toInt < y.toInt := Int32.lt_iff_toInt_lt
theorem own_eq32 (x y : Int32) : (x = y) ↔ x.toInt = y.toInt := Int32.toInt_inj.symm
theorem own_lt64 (x y : Int64) : (x < y) ↔ x.toInt < y.toInt := Int64.lt_iff_toInt_lt
theorem own_eq64 (x y : Int64) : (x = y) ↔ x.toInt = y.toInt := Int64.toInt_inj.symm
theorem d2_0 : decode method_3_code 0 = .ok (.lload_n 0, 1) := by decide +kernel
theorem d2_1 : decode method_3_code 1 = .ok (.lstore_n 2, 1) := by decide +kernel
theorem d2_2 : decode method_3_code 2 = .ok (.lload_n 2, 1) := by decide +kernel
theorem d2_3 : decode method_3_code 3 = .ok (.ldc2_w 22, 3) := by decide +kernel
theorem d2_6 : decode method_3_code 6 = .ok (.lload_n 0, 1) := by decide +kernel
theorem d2_7 : decode method_3_code 7 = .ok (.lload_n 2, 1) := by decide +kernel
theorem d2_8 : decode method_3_code 8 = .ok (.lmul, 1) := by decide +kernel
theorem d2_9 : decode method_3_code 9 = .ok (.lsub, 1) := by decide +kernel
theorem d2_10 : decode method_3_code 10 = .ok (.lmul, 1) := by decide +kernel
theorem d2_11 : decode method_3_code 11 = .ok (.lstore_n 2, 1) := by decide +kernel
theorem d2_12 : decode method_3_code 12 = .ok (.lload_n 2, 1) := by decide +kernel
theorem d2_13 : decode method_3_code 13 = .ok (.ldc2_w 22, 3) := by decide +kernel
theorem d2_16 : decode method_3_code 16 = .ok (.lload_n 0, 1) := by decide +kernel
theorem d2_17 : decode method_3_code 17 = .ok (.lload_n 2, 1) := by decide +kernel
theorem d2_18 : decode method_3_code 18 = .ok (.lmul, 1) := by decide +kernel
theorem d2_19 : decode method_3_code 19 = .ok (.lsub, 1) := by decide +kernel
theorem d2_20 : decode method_3_code 20 = .ok (.lmul, 1) := by decide +kernel
theorem d2_21 : decode method_3_code 21 = .ok (.lstore_n 2, 1) := by decide +kernel
theorem d2_22 : decode method_3_code 22 = .ok (.lload_n 2, 1) := by decide +kernel
theorem d2_23 : decode method_3_code 23 = .ok (.ldc2_w 22, 3) := by decide +kernel
theorem d2_26 : decode method_3_code 26 = .ok (.lload_n 0, 1) := by decide +kernel
theorem d2_27 : decode method_3_code 27 = .ok (.lload_n 2, 1) := by decide +kernel
theorem d2_28 : decode method_3_code 28 = .ok (.lmul, 1) := by decide +kernel
theorem d2_29 : decode method_3_code 29 = .ok (.lsub, 1) := by decide +kernel
theorem d2_30 : decode method_3_code 30 = .ok (.lmul, 1) := by decide +kernel
theorem d2_31 : decode method_3_code 31 = .ok (.lstore_n 2, 1) := by decide +kernel
theorem d2_32 : decode method_3_code 32 = .ok (.lload_n 2, 1) := by decide +kernel
theorem d2_33 : decode method_3_code 33 = .ok (.ldc2_w 22, 3) := by decide +kernel
theorem d2_36 : decode method_3_code 36 = .ok (.lload_n 0, 1) := by decide +kernel
theorem d2_37 : decode method_3_code 37 = .ok (.lload_n 2, 1) := by decide +kernel
theorem d2_38 : decode method_3_code 38 = .ok (.lmul, 1) := by decide +kernel
theorem d2_39 : decode method_3_code 39 = .ok (.lsub, 1) := by decide +kernel
theorem d2_40 : decode method_3_code 40 = .ok (.lmul, 1) := by decide +kernel
theorem d2_41 : decode method_3_code 41 = .ok (.lstore_n 2, 1) := by decide +kernel
theorem d2_42 : decode method_3_code 42 = .ok (.lload_n 2, 1) := by decide +kernel
theorem d2_43 : decode method_3_code 43 = .ok (.ldc2_w 22, 3) := by decide +kernel
theorem d2_46 : decode method_3_code 46 = .ok (.lload_n 0, 1) := by decide +kernel
theorem d2_47 : decode method_3_code 47 = .ok (.lload_n 2, 1) := by decide +kernel
theorem d2_48 : decode method_3_code 48 = .ok (.lmul, 1) := by decide +kernel
theorem d2_49 : decode method_3_code 49 = .ok (.lsub, 1) := by decide +kernel
theorem d2_50 : decode method_3_code 50 = .ok (.lmul, 1) := by decide +kernel
theorem d2_51 : decode method_3_code 51 = .ok (.lstore_n 2, 1) := by decide +kernel
theorem d2_52 : decode method_3_code 52 = .ok (.lload_n 2, 1) := by decide +kernel
theorem d2_53 : decode method_3_code 53 = .ok (.lreturn, 1) := by decide +kernel
theorem pn_2 : plainName "com/example/strati/strati/sim/SplitMix64MixPinLaw" = true := by first | (simp [plainName, overriddenIn]; done) | decide +kernel
theorem pd_2 : parseMethodDescriptor "(J)J" = some ⟨[.long], (some .long)⟩ := by decide +kernel
theorem ef_2 (m : MethodId) (x0 : Int64) : entryFrame m #[(.long x0)] 4 = mkF m 0 #[.val (.long x0), .second, .unset, .unset] [] := by first | (simp [entryFrame, mkF, argsToLocals, Value.category]; done) | rfl
def own_f2_1 (x0 : Int64) : Int64 := ((x0 * ((2 : Int64) - (x0 * x0))) * ((2 : Int64) - (x0 * (x0 * ((2 : Int64) - (x0 * x0))))))
def own_f2_2 (x0 : Int64) : Int64 := (((own_f2_1 x0) * ((2 : Int64) - (x0 * (own_f2_1 x0)))) * ((2 : Int64) - (x0 * ((own_f2_1 x0) * ((2 : Int64) - (x0 * (own_f2_1 x0)))))))
def own_f2 (x0 : Int64) : Int64 := ((own_f2_2 x0) * ((2 : Int64) - (x0 * (own_f2_2 x0))))
def own_F2 (Z : State) (x0 : Int64)  (h0 : Heap) (v : Option Value) (h : Heap) (L : List Loc) : Prop := v = some (.long (own_f2 x0)) ∧ L = [] ∧ h = h0
set_option maxRecDepth 65536 in
set_option maxHeartbeats 40000000 in
theorem own_m2 (l : Launch) (Z : State) (a0 : Array Value) (hw : ∀ d ∈ tables_1, d.before a0 Z = true) (ws : List Jvm.Cond) (x0 : Int64)  (h0 : Heap)   :
    MetFree l (⟨"com/example/strati/strati/sim/SplitMix64MixPinLaw", "inverse", "(J)J"⟩ : MethodName) (head1 (Jvm.Cond.code (⟨"com/example/strati/strati/sim/SplitMix64MixPinLaw", "inverse", "(J)J"⟩ : MethodName) method_3_code 4 (some .long) :: ws) ({ frames := 0, cells := 0, slots := 0, locals := 0 } : Room)) (fun a U => a = #[(.long x0)] ∧ Z.Warmed39 U.vm ∧ U.heap = h0) (fun _ _ _ _ _ => True) (fun _ U o U' => ∃ v L, o = .returned v ∧ own_F2 Z x0 h0 v U'.heap L ∧ FrameEnd U o U' L ({ frames := 0, cells := 0, slots := 0, locals := 0 } : Room).cells ({ frames := 0, cells := 0, slots := 0, locals := 0 } : Room).slots) := by
  refine MetFree.of_bodySF (plainFor_of_name pn_2) hisR ?_
  intro p e s m args below meth c s₁ Bd hml0 hP hK
  obtain ⟨rfl, hZ, hh⟩ := hP
  have hx := Bd.exec
  have hby := Bd.bytes
  have hml : c.maxLocals = 4 := hml0
  have hown : s.vm.findClass "com/example/strati/strati/sim/SplitMix64MixPinLaw" = some m.cls := findClass_of_methodNamed Bd.named
  have hnm := (name_of_methodNamed Bd.named Bd.method).1
  have X0 : Stand p l e ({ frames := 0, cells := 0, slots := 0, locals := 0 } : Room) s m #[(.long x0)] below meth c s₁ [] 0 0 := Stand.of_body Bd
  have e0 : s₁.heap = h0 := by rw [← hh, Bd.state]; rfl
  have hgo : own_Goes p e below s (own_F2 Z x0 h0) 0 0 (s₁.setTop (mkF m 0 #[.val (.long x0), .second, .unset, .unset] [])) := by
    refine own_Goes.step (fun t k => XT.lloadN X0.here hx rfl (hb hby d2_0) rfl k) ?_
    show own_Goes p e below s (own_F2 Z x0 h0) 0 0 (s₁.setTop (mkF m 1 #[.val (.long x0), .second, .unset, .unset] [(.long x0)]))
    refine own_Goes.step (fun t k => XT.lstoreN X0.here hx rfl (hb hby d2_1) rfl (l' := #[.val (.long x0), .second, .val (.long x0), .second]) rfl k) ?_
    show own_Goes p e below s (own_F2 Z x0 h0) 0 0 (s₁.setTop (mkF m 2 #[.val (.long x0), .second, .val (.long x0), .second] []))
    refine own_Goes.step (fun t k => XT.lloadN X0.here hx rfl (hb hby d2_2) rfl k) ?_
    show own_Goes p e below s (own_F2 Z x0 h0) 0 0 (s₁.setTop (mkF m 3 #[.val (.long x0), .second, .val (.long x0), .second] [(.long x0)]))
    refine own_Goes.step (fun t k => X0.ldc2J hx hown (mvT hZ (hw _ (List.mem_of_getElem? (i := 11) rfl))) rfl (hb hby d2_3) k) ?_
    show own_Goes p e below s (own_F2 Z x0 h0) 0 0 (s₁.setTop (mkF m 6 #[.val (.long x0), .second, .val (.long x0), .second] [(.long (2 : Int64)), (.long x0)]))
    refine own_Goes.step (fun t k => XT.lloadN X0.here hx rfl (hb hby d2_6) rfl k) ?_
    show own_Goes p e below s (own_F2 Z x0 h0) 0 0 (s₁.setTop (mkF m 7 #[.val (.long x0), .second, .val (.long x0), .second] [(.long x0), (.long (2 : Int64)), (.long x0)]))
    refine own_Goes.step (fun t k => XT.lloadN X0.here hx rfl (hb hby d2_7) rfl k) ?_
    show own_Goes p e below s (own_F2 Z x0 h0) 0 0 (s₁.setTop (mkF m 8 #[.val (.long x0), .second, .val (.long x0), .second] [(.long x0), (.long x0), (.long (2 : Int64)), (.long x0)]))
    refine own_Goes.step (fun t k => XT.lmul X0.here hx rfl (hb hby d2_8) rfl k) ?_
    show own_Goes p e below s (own_F2 Z x0 h0) 0 0 (s₁.setTop (mkF m 9 #[.val (.long x0), .second, .val (.long x0), .second] [(.long (x0 * x0)), (.long (2 : Int64)), (.long x0)]))
    refine own_Goes.step (fun t k => XT.lsub X0.here hx rfl (hb hby d2_9) rfl k) ?_
    show own_Goes p e below s (own_F2 Z x0 h0) 0 0 (s₁.setTop (mkF m 10 #[.val (.long x0), .second, .val (.long x0), .second] [(.long ((2 : Int64) - (x0 * x0))), (.long x0)]))
    refine own_Goes.step (fun t k => XT.lmul X0.here hx rfl (hb hby d2_10) rfl k) ?_
    show own_Goes p e below s (own_F2 Z x0 h0) 0 0 (s₁.setTop (mkF m 11 #[.val (.long x0), .second, .val (.long x0), .second] [(.long (x0 * ((2 : Int64) - (x0 * x0))))]))
    refine own_Goes.step (fun t k => XT.lstoreN X0.here hx rfl (hb hby d2_11) rfl (l' := #[.val (.long x0), .second, .val (.long (x0 * ((2 : Int64) - (x0 * x0)))), .second]) rfl k) ?_
    show own_Goes p e below s (own_F2 Z x0 h0) 0 0 (s₁.setTop (mkF m 12 #[.val (.long x0), .second, .val (.long (x0 * ((2 : Int64) - (x0 * x0)))), .second] []))
    refine own_Goes.step (fun t k => XT.lloadN X0.here hx rfl (hb hby d2_12) rfl k) ?_
    show own_Goes p e below s (own_F2 Z x0 h0) 0 0 (s₁.setTop (mkF m 13 #[.val (.long x0), .second, .val (.long (x0 * ((2 : Int64) - (x0 * x0)))), .second] [(.long (x0 * ((2 : Int64) - (x0 * x0))))]))
    refine own_Goes.step (fun t k => X0.ldc2J hx hown (mvT hZ (hw _ (List.mem_of_getElem? (i := 11) rfl))) rfl (hb hby d2_13) k) ?_
    show own_Goes p e below s (own_F2 Z x0 h0) 0 0 (s₁.setTop (mkF m 16 #[.val (.long x0), .second, .val (.long (x0 * ((2 : Int64) - (x0 * x0)))), .second] [(.long (2 : Int64)), (.long (x0 * ((2 : Int64) - (x0 * x0))))]))
    refine own_Goes.step (fun t k => XT.lloadN X0.here hx rfl (hb hby d2_16) rfl k) ?_
    show own_Goes p e below s (own_F2 Z x0 h0) 0 0 (s₁.setTop (mkF m 17 #[.val (.long x0), .second, .val (.long (x0 * ((2 : Int64) - (x0 * x0)))), .second] [(.long x0), (.long (2 : Int64)), (.long (x0 * ((2 : Int64) - (x0 * x0))))]))
    refine own_Goes.step (fun t k => XT.lloadN X0.here hx rfl (hb hby d2_17) rfl k) ?_
    show own_Goes p e below s (own_F2 Z x0 h0) 0 0 (s₁.setTop (mkF m 18 #[.val (.long x0), .second, .val (.long (x0 * ((2 : Int64) - (x0 * x0)))), .second] [(.long (x0 * ((2 : Int64) - (x0 * x0)))), (.long x0), (.long (2 : Int64)), (.long (x0 * ((2 : Int64) - (x0 * x0))))]))
    refine own_Goes.step (fun t k => XT.lmul X0.here hx rfl (hb hby d2_18) rfl k) ?_
    show own_Goes p e below s (own_F2 Z x0 h0) 0 0 (s₁.setTop (mkF m 19 #[.val (.long x0), .second, .val (.long (x0 * ((2 : Int64) - (x0 * x0)))), .second] [(.long (x0 * (x0 * ((2 : Int64) - (x0 * x0))))), (.long (2 : Int64)), (.long (x0 * ((2 : Int64) - (x0 * x0))))]))
    refine own_Goes.step (fun t k => XT.lsub X0.here hx rfl (hb hby d2_19) rfl k) ?_
    show own_Goes p e below s (own_F2 Z x0 h0) 0 0 (s₁.setTop (mkF m 20 #[.val (.long x0), .second, .val (.long (x0 * ((2 : Int64) - (x0 * x0)))), .second] [(.long ((2 : Int64) - (x0 * (x0 * ((2 : Int64) - (x0 * x0)))))), (.long (x0 * ((2 : Int64) - (x0 * x0))))]))
    refine own_Goes.step (fun t k => XT.lmul X0.here hx rfl (hb hby d2_20) rfl k) ?_
    show own_Goes p e below s (own_F2 Z x0 h0) 0 0 (s₁.setTop (mkF m 21 #[.val (.long x0), .second, .val (.long (x0 * ((2 : Int64) - (x0 * x0)))), .second] [(.long ((x0 * ((2 : Int64) - (x0 * x0))) * ((2 : Int64) - (x0 * (x0 * ((2 : Int64) - (x0 * x0)))))))]))
    refine own_Goes.step (fun t k => XT.lstoreN X0.here hx rfl (hb hby d2_21) rfl (l' := #[.val (.long x0), .second, .val (.long (own_f2_1 x0)), .second]) rfl k) ?_
    show own_Goes p e below s (own_F2 Z x0 h0) 0 0 (s₁.setTop (mkF m 22 #[.val (.long x0), .second, .val (.long (own_f2_1 x0)), .second] []))
    refine own_Goes.step (fun t k => XT.lloadN X0.here hx rfl (hb hby d2_22) rfl k) ?_
    show own_Goes p e below s (own_F2 Z x0 h0) 0 0 (s₁.setTop (mkF m 23 #[.val (.long x0), .second, .val (.long (own_f2_1 x0)), .second] [(.long (own_f2_1 x0))]))
    refine own_Goes.step (fun t k => X0.ldc2J hx hown (mvT hZ (hw _ (List.mem_of_getElem? (i := 11) rfl))) rfl (hb hby d2_23) k) ?_
    show own_Goes p e below s (own_F2 Z x0 h0) 0 0 (s₁.setTop (mkF m 26 #[.val (.long x0), .second, .val (.long (own_f2_1 x0)), .second] [(.long (2 : Int64)), (.long (own_f2_1 x0))]))
    refine own_Goes.step (fun t k => XT.lloadN X0.here hx rfl (hb hby d2_26) rfl k) ?_
    show own_Goes p e below s (own_F2 Z x0 h0) 0 0 (s₁.setTop (mkF m 27 #[.val (.long x0), .second, .val (.long (own_f2_1 x0)), .second] [(.long x0), (.long (2 : Int64)), (.long (own_f2_1 x0))]))
    refine own_Goes.step (fun t k => XT.lloadN X0.here hx rfl (hb hby d2_27) rfl k) ?_
    show own_Goes p e below s (own_F2 Z x0 h0) 0 0 (s₁.setTop (mkF m 28 #[.val (.long x0), .second, .val (.long (own_f2_1 x0)), .second] [(.long (own_f2_1 x0)), (.long x0), (.long (2 : Int64)), (.long (own_f2_1 x0))]))
    refine own_Goes.step (fun t k => XT.lmul X0.here hx rfl (hb hby d2_28) rfl k) ?_
    show own_Goes p e below s (own_F2 Z x0 h0) 0 0 (s₁.setTop (mkF m 29 #[.val (.long x0), .second, .val (.long (own_f2_1 x0)), .second] [(.long (x0 * (own_f2_1 x0))), (.long (2 : Int64)), (.long (own_f2_1 x0))]))
    refine own_Goes.step (fun t k => XT.lsub X0.here hx rfl (hb hby d2_29) rfl k) ?_
    show own_Goes p e below s (own_F2 Z x0 h0) 0 0 (s₁.setTop (mkF m 30 #[.val (.long x0), .second, .val (.long (own_f2_1 x0)), .second] [(.long ((2 : Int64) - (x0 * (own_f2_1 x0)))), (.long (own_f2_1 x0))]))
    refine own_Goes.step (fun t k => XT.lmul X0.here hx rfl (hb hby d2_30) rfl k) ?_
    show own_Goes p e below s (own_F2 Z x0 h0) 0 0 (s₁.setTop (mkF m 31 #[.val (.long x0), .second, .val (.long (own_f2_1 x0)), .second] [(.long ((own_f2_1 x0) * ((2 : Int64) - (x0 * (own_f2_1 x0)))))]))
    refine own_Goes.step (fun t k => XT.lstoreN X0.here hx rfl (hb hby d2_31) rfl (l' := #[.val (.long x0), .second, .val (.long ((own_f2_1 x0) * ((2 : Int64) - (x0 * (own_f2_1 x0))))), .second]) rfl k) ?_
    show own_Goes p e below s (own_F2 Z x0 h0) 0 0 (s₁.setTop (mkF m 32 #[.val (.long x0), .second, .val (.long ((own_f2_1 x0) * ((2 : Int64) - (x0 * (own_f2_1 x0))))), .second] []))
    refine own_Goes.step (fun t k => XT.lloadN X0.here hx rfl (hb hby d2_32) rfl k) ?_
    show own_Goes p e below s (own_F2 Z x0 h0) 0 0 (s₁.setTop (mkF m 33 #[.val (.long x0), .second, .val (.long ((own_f2_1 x0) * ((2 : Int64) - (x0 * (own_f2_1 x0))))), .second] [(.long ((own_f2_1 x0) * ((2 : Int64) - (x0 * (own_f2_1 x0)))))]))
    refine own_Goes.step (fun t k => X0.ldc2J hx hown (mvT hZ (hw _ (List.mem_of_getElem? (i := 11) rfl))) rfl (hb hby d2_33) k) ?_
    show own_Goes p e below s (own_F2 Z x0 h0) 0 0 (s₁.setTop (mkF m 36 #[.val (.long x0), .second, .val (.long ((own_f2_1 x0) * ((2 : Int64) - (x0 * (own_f2_1 x0))))), .second] [(.long (2 : Int64)), (.long ((own_f2_1 x0) * ((2 : Int64) - (x0 * (own_f2_1 x0)))))]))
    refine own_Goes.step (fun t k => XT.lloadN X0.here hx rfl (hb hby d2_36) rfl k) ?_
    show own_Goes p e below s (own_F2 Z x0 h0) 0 0 (s₁.setTop (mkF m 37 #[.val (.long x0), .second, .val (.long ((own_f2_1 x0) * ((2 : Int64) - (x0 * (own_f2_1 x0))))), .second] [(.long x0), (.long (2 : Int64)), (.long ((own_f2_1 x0) * ((2 : Int64) - (x0 * (own_f2_1 x0)))))]))
    refine own_Goes.step (fun t k => XT.lloadN X0.here hx rfl (hb hby d2_37) rfl k) ?_
    show own_Goes p e below s (own_F2 Z x0 h0) 0 0 (s₁.setTop (mkF m 38 #[.val (.long x0), .second, .val (.long ((own_f2_1 x0) * ((2 : Int64) - (x0 * (own_f2_1 x0))))), .second] [(.long ((own_f2_1 x0) * ((2 : Int64) - (x0 * (own_f2_1 x0))))), (.long x0), (.long (2 : Int64)), (.long ((own_f2_1 x0) * ((2 : Int64) - (x0 * (own_f2_1 x0)))))]))
    refine own_Goes.step (fun t k => XT.lmul X0.here hx rfl (hb hby d2_38) rfl k) ?_
    show own_Goes p e below s (own_F2 Z x0 h0) 0 0 (s₁.setTop (mkF m 39 #[.val (.long x0), .second, .val (.long ((own_f2_1 x0) * ((2 : Int64) - (x0 * (own_f2_1 x0))))), .second] [(.long (x0 * ((own_f2_1 x0) * ((2 : Int64) - (x0 * (own_f2_1 x0)))))), (.long (2 : Int64)), (.long ((own_f2_1 x0) * ((2 : Int64) - (x0 * (own_f2_1 x0)))))]))
    refine own_Goes.step (fun t k => XT.lsub X0.here hx rfl (hb hby d2_39) rfl k) ?_
    show own_Goes p e below s (own_F2 Z x0 h0) 0 0 (s₁.setTop (mkF m 40 #[.val (.long x0), .second, .val (.long ((own_f2_1 x0) * ((2 : Int64) - (x0 * (own_f2_1 x0))))), .second] [(.long ((2 : Int64) - (x0 * ((own_f2_1 x0) * ((2 : Int64) - (x0 * (own_f2_1 x0))))))), (.long ((own_f2_1 x0) * ((2 : Int64) - (x0 * (own_f2_1 x0)))))]))
    refine own_Goes.step (fun t k => XT.lmul X0.here hx rfl (hb hby d2_40) rfl k) ?_
    show own_Goes p e below s (own_F2 Z x0 h0) 0 0 (s₁.setTop (mkF m 41 #[.val (.long x0), .second, .val (.long ((own_f2_1 x0) * ((2 : Int64) - (x0 * (own_f2_1 x0))))), .second] [(.long (((own_f2_1 x0) * ((2 : Int64) - (x0 * (own_f2_1 x0)))) * ((2 : Int64) - (x0 * ((own_f2_1 x0) * ((2 : Int64) - (x0 * (own_f2_1 x0))))))))]))
    refine own_Goes.step (fun t k => XT.lstoreN X0.here hx rfl (hb hby d2_41) rfl (l' := #[.val (.long x0), .second, .val (.long (own_f2_2 x0)), .second]) rfl k) ?_
    show own_Goes p e below s (own_F2 Z x0 h0) 0 0 (s₁.setTop (mkF m 42 #[.val (.long x0), .second, .val (.long (own_f2_2 x0)), .second] []))
    refine own_Goes.step (fun t k => XT.lloadN X0.here hx rfl (hb hby d2_42) rfl k) ?_
    show own_Goes p e below s (own_F2 Z x0 h0) 0 0 (s₁.setTop (mkF m 43 #[.val (.long x0), .second, .val (.long (own_f2_2 x0)), .second] [(.long (own_f2_2 x0))]))
    refine own_Goes.step (fun t k => X0.ldc2J hx hown (mvT hZ (hw _ (List.mem_of_getElem? (i := 11) rfl))) rfl (hb hby d2_43) k) ?_
    show own_Goes p e below s (own_F2 Z x0 h0) 0 0 (s₁.setTop (mkF m 46 #[.val (.long x0), .second, .val (.long (own_f2_2 x0)), .second] [(.long (2 : Int64)), (.long (own_f2_2 x0))]))
    refine own_Goes.step (fun t k => XT.lloadN X0.here hx rfl (hb hby d2_46) rfl k) ?_
    show own_Goes p e below s (own_F2 Z x0 h0) 0 0 (s₁.setTop (mkF m 47 #[.val (.long x0), .second, .val (.long (own_f2_2 x0)), .second] [(.long x0), (.long (2 : Int64)), (.long (own_f2_2 x0))]))
    refine own_Goes.step (fun t k => XT.lloadN X0.here hx rfl (hb hby d2_47) rfl k) ?_
    show own_Goes p e below s (own_F2 Z x0 h0) 0 0 (s₁.setTop (mkF m 48 #[.val (.long x0), .second, .val (.long (own_f2_2 x0)), .second] [(.long (own_f2_2 x0)), (.long x0), (.long (2 : Int64)), (.long (own_f2_2 x0))]))
    refine own_Goes.step (fun t k => XT.lmul X0.here hx rfl (hb hby d2_48) rfl k) ?_
    show own_Goes p e below s (own_F2 Z x0 h0) 0 0 (s₁.setTop (mkF m 49 #[.val (.long x0), .second, .val (.long (own_f2_2 x0)), .second] [(.long (x0 * (own_f2_2 x0))), (.long (2 : Int64)), (.long (own_f2_2 x0))]))
    refine own_Goes.step (fun t k => XT.lsub X0.here hx rfl (hb hby d2_49) rfl k) ?_
    show own_Goes p e below s (own_F2 Z x0 h0) 0 0 (s₁.setTop (mkF m 50 #[.val (.long x0), .second, .val (.long (own_f2_2 x0)), .second] [(.long ((2 : Int64) - (x0 * (own_f2_2 x0)))), (.long (own_f2_2 x0))]))
    refine own_Goes.step (fun t k => XT.lmul X0.here hx rfl (hb hby d2_50) rfl k) ?_
    show own_Goes p e below s (own_F2 Z x0 h0) 0 0 (s₁.setTop (mkF m 51 #[.val (.long x0), .second, .val (.long (own_f2_2 x0)), .second] [(.long ((own_f2_2 x0) * ((2 : Int64) - (x0 * (own_f2_2 x0)))))]))
    refine own_Goes.step (fun t k => XT.lstoreN X0.here hx rfl (hb hby d2_51) rfl (l' := #[.val (.long x0), .second, .val (.long ((own_f2_2 x0) * ((2 : Int64) - (x0 * (own_f2_2 x0))))), .second]) rfl k) ?_
    show own_Goes p e below s (own_F2 Z x0 h0) 0 0 (s₁.setTop (mkF m 52 #[.val (.long x0), .second, .val (.long ((own_f2_2 x0) * ((2 : Int64) - (x0 * (own_f2_2 x0))))), .second] []))
    refine own_Goes.step (fun t k => XT.lloadN X0.here hx rfl (hb hby d2_52) rfl k) ?_
    show own_Goes p e below s (own_F2 Z x0 h0) 0 0 (s₁.setTop (mkF m 53 #[.val (.long x0), .second, .val (.long ((own_f2_2 x0) * ((2 : Int64) - (x0 * (own_f2_2 x0))))), .second] [(.long ((own_f2_2 x0) * ((2 : Int64) - (x0 * (own_f2_2 x0)))))]))
    exact own_endJ X0 hx Bd.notSynchronized Bd.returns (hb hby d2_53) ⟨(congrArg (fun z => some (Value.long z)) (show ((own_f2_2 x0) * ((2 : Int64) - (x0 * (own_f2_2 x0)))) = own_f2 x0 from by simp only [own_f2])), rfl, e0⟩ (by decide) (by decide)
  obtain ⟨t2, o2, q1, q2, q3, q4⟩ := hgo
  exact ⟨t2, o2, castTop (ef_2 m x0) q1, q2, q3, q4⟩
theorem d1_0 : decode prog_54_method_5_code 0 = .ok (.lload_n 0, 1) := by decide +kernel
theorem d1_1 : decode prog_54_method_5_code 1 = .ok (.lload_n 0, 1) := by decide +kernel
theorem d1_2 : decode prog_54_method_5_code 2 = .ok (.bipush 30, 2) := by decide +kernel
theorem d1_4 : decode prog_54_method_5_code 4 = .ok (.lushr, 1) := by decide +kernel
theorem d1_5 : decode prog_54_method_5_code 5 = .ok (.lxor, 1) := by decide +kernel
theorem d1_6 : decode prog_54_method_5_code 6 = .ok (.ldc2_w 29, 3) := by decide +kernel
theorem d1_9 : decode prog_54_method_5_code 9 = .ok (.lmul, 1) := by decide +kernel
theorem d1_10 : decode prog_54_method_5_code 10 = .ok (.lstore_n 0, 1) := by decide +kernel
theorem d1_11 : decode prog_54_method_5_code 11 = .ok (.lload_n 0, 1) := by decide +kernel
theorem d1_12 : decode prog_54_method_5_code 12 = .ok (.lload_n 0, 1) := by decide +kernel
theorem d1_13 : decode prog_54_method_5_code 13 = .ok (.bipush 27, 2) := by decide +kernel
theorem d1_15 : decode prog_54_method_5_code 15 = .ok (.lushr, 1) := by decide +kernel
theorem d1_16 : decode prog_54_method_5_code 16 = .ok (.lxor, 1) := by decide +kernel
theorem d1_17 : decode prog_54_method_5_code 17 = .ok (.ldc2_w 31, 3) := by decide +kernel
theorem d1_20 : decode prog_54_method_5_code 20 = .ok (.lmul, 1) := by decide +kernel
theorem d1_21 : decode prog_54_method_5_code 21 = .ok (.lstore_n 0, 1) := by decide +kernel
theorem d1_22 : decode prog_54_method_5_code 22 = .ok (.lload_n 0, 1) := by decide +kernel
theorem d1_23 : decode prog_54_method_5_code 23 = .ok (.lload_n 0, 1) := by decide +kernel
theorem d1_24 : decode prog_54_method_5_code 24 = .ok (.bipush 31, 2) := by decide +kernel
theorem d1_26 : decode prog_54_method_5_code 26 = .ok (.lushr, 1) := by decide +kernel
theorem d1_27 : decode prog_54_method_5_code 27 = .ok (.lxor, 1) := by decide +kernel
theorem d1_28 : decode prog_54_method_5_code 28 = .ok (.lreturn, 1) := by decide +kernel
theorem pn_1 : plainName "com/example/strati/strati/sim/SplitMix64" = true := by first | (simp [plainName, overriddenIn]; done) | decide +kernel
theorem pd_1 : parseMethodDescriptor "(J)J" = some ⟨[.long], (some .long)⟩ := by decide +kernel
theorem ef_1 (m : MethodId) (x0 : Int64) : entryFrame m #[(.long x0)] 2 = mkF m 0 #[.val (.long x0), .second] [] := by first | (simp [entryFrame, mkF, argsToLocals, Value.category]; done) | rfl
def own_f1_1 (x0 : Int64) : Int64 := ((x0 ^^^ (XT.ushrL x0 (30 : Int32))) * (-4658895280553007687 : Int64))
def own_f1_2 (x0 : Int64) : Int64 := (((own_f1_1 x0) ^^^ (XT.ushrL (own_f1_1 x0) (27 : Int32))) * (-7723592293110705685 : Int64))
def own_f1 (x0 : Int64) : Int64 := ((own_f1_2 x0) ^^^ (XT.ushrL (own_f1_2 x0) (31 : Int32)))
def own_F1 (Z : State) (x0 : Int64)  (h0 : Heap) (v : Option Value) (h : Heap) (L : List Loc) : Prop := v = some (.long (own_f1 x0)) ∧ L = [] ∧ h = h0
set_option maxRecDepth 65536 in
set_option maxHeartbeats 40000000 in
theorem own_m1 (l : Launch) (Z : State) (a0 : Array Value) (hw : ∀ d ∈ tables_1, d.before a0 Z = true) (ws : List Jvm.Cond) (x0 : Int64)  (h0 : Heap)   :
    MetFree l (⟨"com/example/strati/strati/sim/SplitMix64", "mix", "(J)J"⟩ : MethodName) (head1 (Jvm.Cond.code (⟨"com/example/strati/strati/sim/SplitMix64", "mix", "(J)J"⟩ : MethodName) prog_54_method_5_code 2 (some .long) :: ws) ({ frames := 0, cells := 0, slots := 0, locals := 0 } : Room)) (fun a U => a = #[(.long x0)] ∧ Z.Warmed39 U.vm ∧ U.heap = h0) (fun _ _ _ _ _ => True) (fun _ U o U' => ∃ v L, o = .returned v ∧ own_F1 Z x0 h0 v U'.heap L ∧ FrameEnd U o U' L ({ frames := 0, cells := 0, slots := 0, locals := 0 } : Room).cells ({ frames := 0, cells := 0, slots := 0, locals := 0 } : Room).slots) := by
  refine MetFree.of_bodySF (plainFor_of_name pn_1) hisR ?_
  intro p e s m args below meth c s₁ Bd hml0 hP hK
  obtain ⟨rfl, hZ, hh⟩ := hP
  have hx := Bd.exec
  have hby := Bd.bytes
  have hml : c.maxLocals = 2 := hml0
  have hown : s.vm.findClass "com/example/strati/strati/sim/SplitMix64" = some m.cls := findClass_of_methodNamed Bd.named
  have hnm := (name_of_methodNamed Bd.named Bd.method).1
  have X0 : Stand p l e ({ frames := 0, cells := 0, slots := 0, locals := 0 } : Room) s m #[(.long x0)] below meth c s₁ [] 0 0 := Stand.of_body Bd
  have e0 : s₁.heap = h0 := by rw [← hh, Bd.state]; rfl
  have hgo : own_Goes p e below s (own_F1 Z x0 h0) 0 0 (s₁.setTop (mkF m 0 #[.val (.long x0), .second] [])) := by
    refine own_Goes.step (fun t k => XT.lloadN X0.here hx rfl (hb hby d1_0) rfl k) ?_
    show own_Goes p e below s (own_F1 Z x0 h0) 0 0 (s₁.setTop (mkF m 1 #[.val (.long x0), .second] [(.long x0)]))
    refine own_Goes.step (fun t k => XT.lloadN X0.here hx rfl (hb hby d1_1) rfl k) ?_
    show own_Goes p e below s (own_F1 Z x0 h0) 0 0 (s₁.setTop (mkF m 2 #[.val (.long x0), .second] [(.long x0), (.long x0)]))
    refine own_Goes.step (fun t k => XT.bipushV X0.here hx rfl (30 : Int32) (hb hby d1_2) (by decide) k) ?_
    show own_Goes p e below s (own_F1 Z x0 h0) 0 0 (s₁.setTop (mkF m 4 #[.val (.long x0), .second] [(.int (30 : Int32)), (.long x0), (.long x0)]))
    refine own_Goes.step (fun t k => XT.lushr X0.here hx rfl (hb hby d1_4) rfl k) ?_
    show own_Goes p e below s (own_F1 Z x0 h0) 0 0 (s₁.setTop (mkF m 5 #[.val (.long x0), .second] [(.long (XT.ushrL x0 (30 : Int32))), (.long x0)]))
    refine own_Goes.step (fun t k => XT.lxor X0.here hx rfl (hb hby d1_5) rfl k) ?_
    show own_Goes p e below s (own_F1 Z x0 h0) 0 0 (s₁.setTop (mkF m 6 #[.val (.long x0), .second] [(.long (x0 ^^^ (XT.ushrL x0 (30 : Int32))))]))
    refine own_Goes.step (fun t k => X0.ldc2J hx hown (mvT hZ (hw _ (List.mem_of_getElem? (i := 4) rfl))) rfl (hb hby d1_6) k) ?_
    show own_Goes p e below s (own_F1 Z x0 h0) 0 0 (s₁.setTop (mkF m 9 #[.val (.long x0), .second] [(.long (-4658895280553007687 : Int64)), (.long (x0 ^^^ (XT.ushrL x0 (30 : Int32))))]))
    refine own_Goes.step (fun t k => XT.lmul X0.here hx rfl (hb hby d1_9) rfl k) ?_
    show own_Goes p e below s (own_F1 Z x0 h0) 0 0 (s₁.setTop (mkF m 10 #[.val (.long x0), .second] [(.long ((x0 ^^^ (XT.ushrL x0 (30 : Int32))) * (-4658895280553007687 : Int64)))]))
    refine own_Goes.step (fun t k => XT.lstoreN X0.here hx rfl (hb hby d1_10) rfl (l' := #[.val (.long (own_f1_1 x0)), .second]) rfl k) ?_
    show own_Goes p e below s (own_F1 Z x0 h0) 0 0 (s₁.setTop (mkF m 11 #[.val (.long (own_f1_1 x0)), .second] []))
    refine own_Goes.step (fun t k => XT.lloadN X0.here hx rfl (hb hby d1_11) rfl k) ?_
    show own_Goes p e below s (own_F1 Z x0 h0) 0 0 (s₁.setTop (mkF m 12 #[.val (.long (own_f1_1 x0)), .second] [(.long (own_f1_1 x0))]))
    refine own_Goes.step (fun t k => XT.lloadN X0.here hx rfl (hb hby d1_12) rfl k) ?_
    show own_Goes p e below s (own_F1 Z x0 h0) 0 0 (s₁.setTop (mkF m 13 #[.val (.long (own_f1_1 x0)), .second] [(.long (own_f1_1 x0)), (.long (own_f1_1 x0))]))
    refine own_Goes.step (fun t k => XT.bipushV X0.here hx rfl (27 : Int32) (hb hby d1_13) (by decide) k) ?_
    show own_Goes p e below s (own_F1 Z x0 h0) 0 0 (s₁.setTop (mkF m 15 #[.val (.long (own_f1_1 x0)), .second] [(.int (27 : Int32)), (.long (own_f1_1 x0)), (.long (own_f1_1 x0))]))
    refine own_Goes.step (fun t k => XT.lushr X0.here hx rfl (hb hby d1_15) rfl k) ?_
    show own_Goes p e below s (own_F1 Z x0 h0) 0 0 (s₁.setTop (mkF m 16 #[.val (.long (own_f1_1 x0)), .second] [(.long (XT.ushrL (own_f1_1 x0) (27 : Int32))), (.long (own_f1_1 x0))]))
    refine own_Goes.step (fun t k => XT.lxor X0.here hx rfl (hb hby d1_16) rfl k) ?_
    show own_Goes p e below s (own_F1 Z x0 h0) 0 0 (s₁.setTop (mkF m 17 #[.val (.long (own_f1_1 x0)), .second] [(.long ((own_f1_1 x0) ^^^ (XT.ushrL (own_f1_1 x0) (27 : Int32))))]))
    refine own_Goes.step (fun t k => X0.ldc2J hx hown (mvT hZ (hw _ (List.mem_of_getElem? (i := 5) rfl))) rfl (hb hby d1_17) k) ?_
    show own_Goes p e below s (own_F1 Z x0 h0) 0 0 (s₁.setTop (mkF m 20 #[.val (.long (own_f1_1 x0)), .second] [(.long (-7723592293110705685 : Int64)), (.long ((own_f1_1 x0) ^^^ (XT.ushrL (own_f1_1 x0) (27 : Int32))))]))
    refine own_Goes.step (fun t k => XT.lmul X0.here hx rfl (hb hby d1_20) rfl k) ?_
    show own_Goes p e below s (own_F1 Z x0 h0) 0 0 (s₁.setTop (mkF m 21 #[.val (.long (own_f1_1 x0)), .second] [(.long (((own_f1_1 x0) ^^^ (XT.ushrL (own_f1_1 x0) (27 : Int32))) * (-7723592293110705685 : Int64)))]))
    refine own_Goes.step (fun t k => XT.lstoreN X0.here hx rfl (hb hby d1_21) rfl (l' := #[.val (.long (own_f1_2 x0)), .second]) rfl k) ?_
    show own_Goes p e below s (own_F1 Z x0 h0) 0 0 (s₁.setTop (mkF m 22 #[.val (.long (own_f1_2 x0)), .second] []))
    refine own_Goes.step (fun t k => XT.lloadN X0.here hx rfl (hb hby d1_22) rfl k) ?_
    show own_Goes p e below s (own_F1 Z x0 h0) 0 0 (s₁.setTop (mkF m 23 #[.val (.long (own_f1_2 x0)), .second] [(.long (own_f1_2 x0))]))
    refine own_Goes.step (fun t k => XT.lloadN X0.here hx rfl (hb hby d1_23) rfl k) ?_
    show own_Goes p e below s (own_F1 Z x0 h0) 0 0 (s₁.setTop (mkF m 24 #[.val (.long (own_f1_2 x0)), .second] [(.long (own_f1_2 x0)), (.long (own_f1_2 x0))]))
    refine own_Goes.step (fun t k => XT.bipushV X0.here hx rfl (31 : Int32) (hb hby d1_24) (by decide) k) ?_
    show own_Goes p e below s (own_F1 Z x0 h0) 0 0 (s₁.setTop (mkF m 26 #[.val (.long (own_f1_2 x0)), .second] [(.int (31 : Int32)), (.long (own_f1_2 x0)), (.long (own_f1_2 x0))]))
    refine own_Goes.step (fun t k => XT.lushr X0.here hx rfl (hb hby d1_26) rfl k) ?_
    show own_Goes p e below s (own_F1 Z x0 h0) 0 0 (s₁.setTop (mkF m 27 #[.val (.long (own_f1_2 x0)), .second] [(.long (XT.ushrL (own_f1_2 x0) (31 : Int32))), (.long (own_f1_2 x0))]))
    refine own_Goes.step (fun t k => XT.lxor X0.here hx rfl (hb hby d1_27) rfl k) ?_
    show own_Goes p e below s (own_F1 Z x0 h0) 0 0 (s₁.setTop (mkF m 28 #[.val (.long (own_f1_2 x0)), .second] [(.long ((own_f1_2 x0) ^^^ (XT.ushrL (own_f1_2 x0) (31 : Int32))))]))
    exact own_endJ X0 hx Bd.notSynchronized Bd.returns (hb hby d1_28) ⟨(congrArg (fun z => some (Value.long z)) (show ((own_f1_2 x0) ^^^ (XT.ushrL (own_f1_2 x0) (31 : Int32))) = own_f1 x0 from by simp only [own_f1])), rfl, e0⟩ (by decide) (by decide)
  obtain ⟨t2, o2, q1, q2, q3, q4⟩ := hgo
  exact ⟨t2, o2, castTop (ef_1 m x0) q1, q2, q3, q4⟩
theorem pn_0 : plainName "com/example/strati/strati/sim/SplitMix64MixPinLaw" = true := by first | (simp [plainName, overriddenIn]; done) | decide +kernel
theorem pd_0 : parseMethodDescriptor "(J)Z" = some ⟨[.long], (some .boolean)⟩ := by decide +kernel
theorem ef_0 (m : MethodId) (x0 : Int64) : entryFrame m #[(.long x0)] maxLocals = mkF m 0 #[.val (.long x0), .second, .unset, .unset, .unset, .unset, .unset, .unset, .unset, .unset, .unset, .unset, .unset, .unset] [] := by first | (simp [entryFrame, mkF, argsToLocals, Value.category, maxLocals]; done) | rfl
def own_f0_1 (x0 : Int64) : Int64 := (((own_f1 x0) ^^^ (XT.ushrL (own_f1 x0) (31 : Int32))) ^^^ (XT.ushrL (own_f1 x0) (62 : Int32)))
def own_f0_2 (x0 : Int64) : Int64 := ((((own_f0_1 x0) * (own_f2 (-7723592293110705685 : Int64))) ^^^ (XT.ushrL ((own_f0_1 x0) * (own_f2 (-7723592293110705685 : Int64))) (27 : Int32))) ^^^ (XT.ushrL ((own_f0_1 x0) * (own_f2 (-7723592293110705685 : Int64))) (54 : Int32)))
def own_f0_3 (x0 : Int64) : Int64 := ((((own_f0_2 x0) * (own_f2 (-4658895280553007687 : Int64))) ^^^ (XT.ushrL ((own_f0_2 x0) * (own_f2 (-4658895280553007687 : Int64))) (30 : Int32))) ^^^ (XT.ushrL ((own_f0_2 x0) * (own_f2 (-4658895280553007687 : Int64))) (60 : Int32)))
def own_f0 (x0 : Int64) : Int32 := (if (own_f0_3 x0) = x0 then (1 : Int32) else (0 : Int32))
def own_F0 (Z : State) (x0 : Int64)  (n0 : Nat) (h0 : Heap) (v : Option Value) (h : Heap) (L : List Loc) : Prop := v = some (.int (own_f0 x0)) ∧ Fr n0 L
set_option maxRecDepth 65536 in
set_option maxHeartbeats 40000000 in
theorem own_m0 (l : Launch) (Z : State) (a0 : Array Value) (hw : ∀ d ∈ tables_1, d.before a0 Z = true) (ws : List Jvm.Cond) (x0 : Int64)  (n0 : Nat) (h0 : Heap) (Z0 : n0 ≤ h0.size)   :
    MetFree l x (head1 (Jvm.Cond.code x code maxLocals ret :: ws) room_1) (fun a U => a = #[(.long x0)] ∧ Z.Warmed39 U.vm ∧ U.heap = h0) (fun _ _ _ _ _ => True) (fun _ U o U' => ∃ v L, o = .returned v ∧ own_F0 Z x0 n0 h0 v U'.heap L ∧ FrameEnd U o U' L room_1.cells room_1.slots) := by
  refine MetFree.of_bodySF (plainFor_of_name pn_0) hisR ?_
  intro p e s m args below meth c s₁ Bd hml0 hP hK
  obtain ⟨rfl, hZ, hh⟩ := hP
  have hx := Bd.exec
  have hby := Bd.bytes
  have hml : c.maxLocals = 14 := hml0
  have hown : s.vm.findClass "com/example/strati/strati/sim/SplitMix64MixPinLaw" = some m.cls := findClass_of_methodNamed Bd.named
  have hnm := (name_of_methodNamed Bd.named Bd.method).1
  have X0 : Stand p l e room_1 s m #[(.long x0)] below meth c s₁ [] 0 0 := Stand.of_body Bd
  have e0 : s₁.heap = h0 := by rw [← hh, Bd.state]; rfl
  have N0 := Fr.nil n0
  have K0 : Keep h0 h0 [] := Keep.refl h0 []
  have hgo : own_Goes p e below s (own_F0 Z x0 n0 h0) room_1.cells room_1.slots (s₁.setTop (mkF m 0 #[.val (.long x0), .second, .unset, .unset, .unset, .unset, .unset, .unset, .unset, .unset, .unset, .unset, .unset, .unset] [])) := by
    refine own_Goes.step (fun t k => XT.lloadN X0.here hx rfl (hb hby at_0) rfl k) ?_
    show own_Goes p e below s (own_F0 Z x0 n0 h0) room_1.cells room_1.slots (s₁.setTop (mkF m 1 #[.val (.long x0), .second, .unset, .unset, .unset, .unset, .unset, .unset, .unset, .unset, .unset, .unset, .unset, .unset] [(.long x0)]))
    obtain ⟨w1, T1, L1, q1, Y1, st1⟩ := own_stat X0 hx hZ e0 hown (hw _ (List.mem_of_getElem? (i := 0) rfl)) (hw _ (List.mem_of_getElem? (i := 1) rfl)) (hw _ (List.mem_of_getElem? (i := 2) rfl)) (hw _ (List.mem_of_getElem? (i := 3) rfl)) (by decide) (own_m1 l Z a0 hw [] x0 h0 ) (by decide) (W := 0) (by decide) (by decide) (by decide) (g := (mkF m 1 #[.val (.long x0), .second, .unset, .unset, .unset, .unset, .unset, .unset, .unset, .unset, .unset, .unset, .unset, .unset] [(.long x0)])) rfl (by rw [hml]; rfl) (argsL := [(.long x0)]) (rest := []) (lenOf pd_1 rfl) rfl (by show 2 * 0 + _ ≤ _; exact Nat.le_of_eq rfl) (hb hby at_1)
    obtain ⟨e1, X1⟩ := own_clean q1 Y1 rfl rfl
    obtain ⟨rfl, -, -⟩ := q1
    refine own_Goes.step st1 ?_
    show own_Goes p e below s (own_F0 Z x0 n0 h0) room_1.cells room_1.slots (T1.setTop (mkF m 4 #[.val (.long x0), .second, .unset, .unset, .unset, .unset, .unset, .unset, .unset, .unset, .unset, .unset, .unset, .unset] [(.long (own_f1 x0))]))
    refine own_Goes.step (fun t k => XT.lstoreN X1.here hx rfl (hb hby at_4) rfl (l' := #[.val (.long x0), .second, .val (.long (own_f1 x0)), .second, .unset, .unset, .unset, .unset, .unset, .unset, .unset, .unset, .unset, .unset]) rfl k) ?_
    show own_Goes p e below s (own_F0 Z x0 n0 h0) room_1.cells room_1.slots (T1.setTop (mkF m 5 #[.val (.long x0), .second, .val (.long (own_f1 x0)), .second, .unset, .unset, .unset, .unset, .unset, .unset, .unset, .unset, .unset, .unset] []))
    refine own_Goes.step (fun t k => XT.lloadN X1.here hx rfl (hb hby at_5) rfl k) ?_
    show own_Goes p e below s (own_F0 Z x0 n0 h0) room_1.cells room_1.slots (T1.setTop (mkF m 6 #[.val (.long x0), .second, .val (.long (own_f1 x0)), .second, .unset, .unset, .unset, .unset, .unset, .unset, .unset, .unset, .unset, .unset] [(.long (own_f1 x0))]))
    refine own_Goes.step (fun t k => XT.lloadN X1.here hx rfl (hb hby at_6) rfl k) ?_
    show own_Goes p e below s (own_F0 Z x0 n0 h0) room_1.cells room_1.slots (T1.setTop (mkF m 7 #[.val (.long x0), .second, .val (.long (own_f1 x0)), .second, .unset, .unset, .unset, .unset, .unset, .unset, .unset, .unset, .unset, .unset] [(.long (own_f1 x0)), (.long (own_f1 x0))]))
    refine own_Goes.step (fun t k => XT.bipushV X1.here hx rfl (31 : Int32) (hb hby at_7) (by decide) k) ?_
    show own_Goes p e below s (own_F0 Z x0 n0 h0) room_1.cells room_1.slots (T1.setTop (mkF m 9 #[.val (.long x0), .second, .val (.long (own_f1 x0)), .second, .unset, .unset, .unset, .unset, .unset, .unset, .unset, .unset, .unset, .unset] [(.int (31 : Int32)), (.long (own_f1 x0)), (.long (own_f1 x0))]))
    refine own_Goes.step (fun t k => XT.lushr X1.here hx rfl (hb hby at_9) rfl k) ?_
    show own_Goes p e below s (own_F0 Z x0 n0 h0) room_1.cells room_1.slots (T1.setTop (mkF m 10 #[.val (.long x0), .second, .val (.long (own_f1 x0)), .second, .unset, .unset, .unset, .unset, .unset, .unset, .unset, .unset, .unset, .unset] [(.long (XT.ushrL (own_f1 x0) (31 : Int32))), (.long (own_f1 x0))]))
    refine own_Goes.step (fun t k => XT.lxor X1.here hx rfl (hb hby at_10) rfl k) ?_
    show own_Goes p e below s (own_F0 Z x0 n0 h0) room_1.cells room_1.slots (T1.setTop (mkF m 11 #[.val (.long x0), .second, .val (.long (own_f1 x0)), .second, .unset, .unset, .unset, .unset, .unset, .unset, .unset, .unset, .unset, .unset] [(.long ((own_f1 x0) ^^^ (XT.ushrL (own_f1 x0) (31 : Int32))))]))
    refine own_Goes.step (fun t k => XT.lloadN X1.here hx rfl (hb hby at_11) rfl k) ?_
    show own_Goes p e below s (own_F0 Z x0 n0 h0) room_1.cells room_1.slots (T1.setTop (mkF m 12 #[.val (.long x0), .second, .val (.long (own_f1 x0)), .second, .unset, .unset, .unset, .unset, .unset, .unset, .unset, .unset, .unset, .unset] [(.long (own_f1 x0)), (.long ((own_f1 x0) ^^^ (XT.ushrL (own_f1 x0) (31 : Int32))))]))
    refine own_Goes.step (fun t k => XT.bipushV X1.here hx rfl (62 : Int32) (hb hby at_12) (by decide) k) ?_
    show own_Goes p e below s (own_F0 Z x0 n0 h0) room_1.cells room_1.slots (T1.setTop (mkF m 14 #[.val (.long x0), .second, .val (.long (own_f1 x0)), .second, .unset, .unset, .unset, .unset, .unset, .unset, .unset, .unset, .unset, .unset] [(.int (62 : Int32)), (.long (own_f1 x0)), (.long ((own_f1 x0) ^^^ (XT.ushrL (own_f1 x0) (31 : Int32))))]))
    refine own_Goes.step (fun t k => XT.lushr X1.here hx rfl (hb hby at_14) rfl k) ?_
    show own_Goes p e below s (own_F0 Z x0 n0 h0) room_1.cells room_1.slots (T1.setTop (mkF m 15 #[.val (.long x0), .second, .val (.long (own_f1 x0)), .second, .unset, .unset, .unset, .unset, .unset, .unset, .unset, .unset, .unset, .unset] [(.long (XT.ushrL (own_f1 x0) (62 : Int32))), (.long ((own_f1 x0) ^^^ (XT.ushrL (own_f1 x0) (31 : Int32))))]))
    refine own_Goes.step (fun t k => XT.lxor X1.here hx rfl (hb hby at_15) rfl k) ?_
    show own_Goes p e below s (own_F0 Z x0 n0 h0) room_1.cells room_1.slots (T1.setTop (mkF m 16 #[.val (.long x0), .second, .val (.long (own_f1 x0)), .second, .unset, .unset, .unset, .unset, .unset, .unset, .unset, .unset, .unset, .unset] [(.long (((own_f1 x0) ^^^ (XT.ushrL (own_f1 x0) (31 : Int32))) ^^^ (XT.ushrL (own_f1 x0) (62 : Int32))))]))
    refine own_Goes.step (fun t k => XT.lstore X1.here hx rfl (hb hby at_16) rfl (l' := #[.val (.long x0), .second, .val (.long (own_f1 x0)), .second, .val (.long (own_f0_1 x0)), .second, .unset, .unset, .unset, .unset, .unset, .unset, .unset, .unset]) rfl k) ?_
    show own_Goes p e below s (own_F0 Z x0 n0 h0) room_1.cells room_1.slots (T1.setTop (mkF m 18 #[.val (.long x0), .second, .val (.long (own_f1 x0)), .second, .val (.long (own_f0_1 x0)), .second, .unset, .unset, .unset, .unset, .unset, .unset, .unset, .unset] []))
    refine own_Goes.step (fun t k => XT.lload X1.here hx rfl (hb hby at_18) rfl k) ?_
    show own_Goes p e below s (own_F0 Z x0 n0 h0) room_1.cells room_1.slots (T1.setTop (mkF m 20 #[.val (.long x0), .second, .val (.long (own_f1 x0)), .second, .val (.long (own_f0_1 x0)), .second, .unset, .unset, .unset, .unset, .unset, .unset, .unset, .unset] [(.long (own_f0_1 x0))]))
    refine own_Goes.step (fun t k => X1.ldc2J hx hown (mvT hZ (hw _ (List.mem_of_getElem? (i := 6) rfl))) rfl (hb hby at_20) k) ?_
    show own_Goes p e below s (own_F0 Z x0 n0 h0) room_1.cells room_1.slots (T1.setTop (mkF m 23 #[.val (.long x0), .second, .val (.long (own_f1 x0)), .second, .val (.long (own_f0_1 x0)), .second, .unset, .unset, .unset, .unset, .unset, .unset, .unset, .unset] [(.long (-7723592293110705685 : Int64)), (.long (own_f0_1 x0))]))
    obtain ⟨w2, T2, L2, q2, Y2, st2⟩ := own_stat X1 hx hZ e1 hown (hw _ (List.mem_of_getElem? (i := 7) rfl)) (hw _ (List.mem_of_getElem? (i := 8) rfl)) (hw _ (List.mem_of_getElem? (i := 9) rfl)) (hw _ (List.mem_of_getElem? (i := 10) rfl)) (by decide) (own_m2 l Z a0 hw [] (-7723592293110705685 : Int64) h0 ) (by decide) (W := 2) (by decide) (by decide) (by decide) (g := (mkF m 23 #[.val (.long x0), .second, .val (.long (own_f1 x0)), .second, .val (.long (own_f0_1 x0)), .second, .unset, .unset, .unset, .unset, .unset, .unset, .unset, .unset] [(.long (-7723592293110705685 : Int64)), (.long (own_f0_1 x0))])) rfl (by rw [hml]; rfl) (argsL := [(.long (-7723592293110705685 : Int64))]) (rest := [(.long (own_f0_1 x0))]) (lenOf pd_2 rfl) rfl (by show 2 * 0 + _ ≤ _; exact Nat.le_of_eq rfl) (hb hby at_23)
    obtain ⟨e2, X2⟩ := own_clean q2 Y2 rfl rfl
    obtain ⟨rfl, -, -⟩ := q2
    refine own_Goes.step st2 ?_
    show own_Goes p e below s (own_F0 Z x0 n0 h0) room_1.cells room_1.slots (T2.setTop (mkF m 26 #[.val (.long x0), .second, .val (.long (own_f1 x0)), .second, .val (.long (own_f0_1 x0)), .second, .unset, .unset, .unset, .unset, .unset, .unset, .unset, .unset] [(.long (own_f2 (-7723592293110705685 : Int64))), (.long (own_f0_1 x0))]))
    refine own_Goes.step (fun t k => XT.lmul X2.here hx rfl (hb hby at_26) rfl k) ?_
    show own_Goes p e below s (own_F0 Z x0 n0 h0) room_1.cells room_1.slots (T2.setTop (mkF m 27 #[.val (.long x0), .second, .val (.long (own_f1 x0)), .second, .val (.long (own_f0_1 x0)), .second, .unset, .unset, .unset, .unset, .unset, .unset, .unset, .unset] [(.long ((own_f0_1 x0) * (own_f2 (-7723592293110705685 : Int64))))]))
    refine own_Goes.step (fun t k => XT.lstore X2.here hx rfl (hb hby at_27) rfl (l' := #[.val (.long x0), .second, .val (.long (own_f1 x0)), .second, .val (.long (own_f0_1 x0)), .second, .val (.long ((own_f0_1 x0) * (own_f2 (-7723592293110705685 : Int64)))), .second, .unset, .unset, .unset, .unset, .unset, .unset]) rfl k) ?_
    show own_Goes p e below s (own_F0 Z x0 n0 h0) room_1.cells room_1.slots (T2.setTop (mkF m 29 #[.val (.long x0), .second, .val (.long (own_f1 x0)), .second, .val (.long (own_f0_1 x0)), .second, .val (.long ((own_f0_1 x0) * (own_f2 (-7723592293110705685 : Int64)))), .second, .unset, .unset, .unset, .unset, .unset, .unset] []))
    refine own_Goes.step (fun t k => XT.lload X2.here hx rfl (hb hby at_29) rfl k) ?_
    show own_Goes p e below s (own_F0 Z x0 n0 h0) room_1.cells room_1.slots (T2.setTop (mkF m 31 #[.val (.long x0), .second, .val (.long (own_f1 x0)), .second, .val (.long (own_f0_1 x0)), .second, .val (.long ((own_f0_1 x0) * (own_f2 (-7723592293110705685 : Int64)))), .second, .unset, .unset, .unset, .unset, .unset, .unset] [(.long ((own_f0_1 x0) * (own_f2 (-7723592293110705685 : Int64))))]))
    refine own_Goes.step (fun t k => XT.lload X2.here hx rfl (hb hby at_31) rfl k) ?_
    show own_Goes p e below s (own_F0 Z x0 n0 h0) room_1.cells room_1.slots (T2.setTop (mkF m 33 #[.val (.long x0), .second, .val (.long (own_f1 x0)), .second, .val (.long (own_f0_1 x0)), .second, .val (.long ((own_f0_1 x0) * (own_f2 (-7723592293110705685 : Int64)))), .second, .unset, .unset, .unset, .unset, .unset, .unset] [(.long ((own_f0_1 x0) * (own_f2 (-7723592293110705685 : Int64)))), (.long ((own_f0_1 x0) * (own_f2 (-7723592293110705685 : Int64))))]))
    refine own_Goes.step (fun t k => XT.bipushV X2.here hx rfl (27 : Int32) (hb hby at_33) (by decide) k) ?_
    show own_Goes p e below s (own_F0 Z x0 n0 h0) room_1.cells room_1.slots (T2.setTop (mkF m 35 #[.val (.long x0), .second, .val (.long (own_f1 x0)), .second, .val (.long (own_f0_1 x0)), .second, .val (.long ((own_f0_1 x0) * (own_f2 (-7723592293110705685 : Int64)))), .second, .unset, .unset, .unset, .unset, .unset, .unset] [(.int (27 : Int32)), (.long ((own_f0_1 x0) * (own_f2 (-7723592293110705685 : Int64)))), (.long ((own_f0_1 x0) * (own_f2 (-7723592293110705685 : Int64))))]))
    refine own_Goes.step (fun t k => XT.lushr X2.here hx rfl (hb hby at_35) rfl k) ?_
    show own_Goes p e below s (own_F0 Z x0 n0 h0) room_1.cells room_1.slots (T2.setTop (mkF m 36 #[.val (.long x0), .second, .val (.long (own_f1 x0)), .second, .val (.long (own_f0_1 x0)), .second, .val (.long ((own_f0_1 x0) * (own_f2 (-7723592293110705685 : Int64)))), .second, .unset, .unset, .unset, .unset, .unset, .unset] [(.long (XT.ushrL ((own_f0_1 x0) * (own_f2 (-7723592293110705685 : Int64))) (27 : Int32))), (.long ((own_f0_1 x0) * (own_f2 (-7723592293110705685 : Int64))))]))
    refine own_Goes.step (fun t k => XT.lxor X2.here hx rfl (hb hby at_36) rfl k) ?_
    show own_Goes p e below s (own_F0 Z x0 n0 h0) room_1.cells room_1.slots (T2.setTop (mkF m 37 #[.val (.long x0), .second, .val (.long (own_f1 x0)), .second, .val (.long (own_f0_1 x0)), .second, .val (.long ((own_f0_1 x0) * (own_f2 (-7723592293110705685 : Int64)))), .second, .unset, .unset, .unset, .unset, .unset, .unset] [(.long (((own_f0_1 x0) * (own_f2 (-7723592293110705685 : Int64))) ^^^ (XT.ushrL ((own_f0_1 x0) * (own_f2 (-7723592293110705685 : Int64))) (27 : Int32))))]))
    refine own_Goes.step (fun t k => XT.lload X2.here hx rfl (hb hby at_37) rfl k) ?_
    show own_Goes p e below s (own_F0 Z x0 n0 h0) room_1.cells room_1.slots (T2.setTop (mkF m 39 #[.val (.long x0), .second, .val (.long (own_f1 x0)), .second, .val (.long (own_f0_1 x0)), .second, .val (.long ((own_f0_1 x0) * (own_f2 (-7723592293110705685 : Int64)))), .second, .unset, .unset, .unset, .unset, .unset, .unset] [(.long ((own_f0_1 x0) * (own_f2 (-7723592293110705685 : Int64)))), (.long (((own_f0_1 x0) * (own_f2 (-7723592293110705685 : Int64))) ^^^ (XT.ushrL ((own_f0_1 x0) * (own_f2 (-7723592293110705685 : Int64))) (27 : Int32))))]))
    refine own_Goes.step (fun t k => XT.bipushV X2.here hx rfl (54 : Int32) (hb hby at_39) (by decide) k) ?_
    show own_Goes p e below s (own_F0 Z x0 n0 h0) room_1.cells room_1.slots (T2.setTop (mkF m 41 #[.val (.long x0), .second, .val (.long (own_f1 x0)), .second, .val (.long (own_f0_1 x0)), .second, .val (.long ((own_f0_1 x0) * (own_f2 (-7723592293110705685 : Int64)))), .second, .unset, .unset, .unset, .unset, .unset, .unset] [(.int (54 : Int32)), (.long ((own_f0_1 x0) * (own_f2 (-7723592293110705685 : Int64)))), (.long (((own_f0_1 x0) * (own_f2 (-7723592293110705685 : Int64))) ^^^ (XT.ushrL ((own_f0_1 x0) * (own_f2 (-7723592293110705685 : Int64))) (27 : Int32))))]))
    refine own_Goes.step (fun t k => XT.lushr X2.here hx rfl (hb hby at_41) rfl k) ?_
    show own_Goes p e below s (own_F0 Z x0 n0 h0) room_1.cells room_1.slots (T2.setTop (mkF m 42 #[.val (.long x0), .second, .val (.long (own_f1 x0)), .second, .val (.long (own_f0_1 x0)), .second, .val (.long ((own_f0_1 x0) * (own_f2 (-7723592293110705685 : Int64)))), .second, .unset, .unset, .unset, .unset, .unset, .unset] [(.long (XT.ushrL ((own_f0_1 x0) * (own_f2 (-7723592293110705685 : Int64))) (54 : Int32))), (.long (((own_f0_1 x0) * (own_f2 (-7723592293110705685 : Int64))) ^^^ (XT.ushrL ((own_f0_1 x0) * (own_f2 (-7723592293110705685 : Int64))) (27 : Int32))))]))
    refine own_Goes.step (fun t k => XT.lxor X2.here hx rfl (hb hby at_42) rfl k) ?_
    show own_Goes p e below s (own_F0 Z x0 n0 h0) room_1.cells room_1.slots (T2.setTop (mkF m 43 #[.val (.long x0), .second, .val (.long (own_f1 x0)), .second, .val (.long (own_f0_1 x0)), .second, .val (.long ((own_f0_1 x0) * (own_f2 (-7723592293110705685 : Int64)))), .second, .unset, .unset, .unset, .unset, .unset, .unset] [(.long ((((own_f0_1 x0) * (own_f2 (-7723592293110705685 : Int64))) ^^^ (XT.ushrL ((own_f0_1 x0) * (own_f2 (-7723592293110705685 : Int64))) (27 : Int32))) ^^^ (XT.ushrL ((own_f0_1 x0) * (own_f2 (-7723592293110705685 : Int64))) (54 : Int32))))]))
    refine own_Goes.step (fun t k => XT.lstore X2.here hx rfl (hb hby at_43) rfl (l' := #[.val (.long x0), .second, .val (.long (own_f1 x0)), .second, .val (.long (own_f0_1 x0)), .second, .val (.long ((own_f0_1 x0) * (own_f2 (-7723592293110705685 : Int64)))), .second, .val (.long (own_f0_2 x0)), .second, .unset, .unset, .unset, .unset]) rfl k) ?_
    show own_Goes p e below s (own_F0 Z x0 n0 h0) room_1.cells room_1.slots (T2.setTop (mkF m 45 #[.val (.long x0), .second, .val (.long (own_f1 x0)), .second, .val (.long (own_f0_1 x0)), .second, .val (.long ((own_f0_1 x0) * (own_f2 (-7723592293110705685 : Int64)))), .second, .val (.long (own_f0_2 x0)), .second, .unset, .unset, .unset, .unset] []))
    refine own_Goes.step (fun t k => XT.lload X2.here hx rfl (hb hby at_45) rfl k) ?_
    show own_Goes p e below s (own_F0 Z x0 n0 h0) room_1.cells room_1.slots (T2.setTop (mkF m 47 #[.val (.long x0), .second, .val (.long (own_f1 x0)), .second, .val (.long (own_f0_1 x0)), .second, .val (.long ((own_f0_1 x0) * (own_f2 (-7723592293110705685 : Int64)))), .second, .val (.long (own_f0_2 x0)), .second, .unset, .unset, .unset, .unset] [(.long (own_f0_2 x0))]))
    refine own_Goes.step (fun t k => X2.ldc2J hx hown (mvT hZ (hw _ (List.mem_of_getElem? (i := 12) rfl))) rfl (hb hby at_47) k) ?_
    show own_Goes p e below s (own_F0 Z x0 n0 h0) room_1.cells room_1.slots (T2.setTop (mkF m 50 #[.val (.long x0), .second, .val (.long (own_f1 x0)), .second, .val (.long (own_f0_1 x0)), .second, .val (.long ((own_f0_1 x0) * (own_f2 (-7723592293110705685 : Int64)))), .second, .val (.long (own_f0_2 x0)), .second, .unset, .unset, .unset, .unset] [(.long (-4658895280553007687 : Int64)), (.long (own_f0_2 x0))]))
    obtain ⟨w3, T3, L3, q3, Y3, st3⟩ := own_stat X2 hx hZ e2 hown (hw _ (List.mem_of_getElem? (i := 7) rfl)) (hw _ (List.mem_of_getElem? (i := 8) rfl)) (hw _ (List.mem_of_getElem? (i := 9) rfl)) (hw _ (List.mem_of_getElem? (i := 10) rfl)) (by decide) (own_m2 l Z a0 hw [] (-4658895280553007687 : Int64) h0 ) (by decide) (W := 2) (by decide) (by decide) (by decide) (g := (mkF m 50 #[.val (.long x0), .second, .val (.long (own_f1 x0)), .second, .val (.long (own_f0_1 x0)), .second, .val (.long ((own_f0_1 x0) * (own_f2 (-7723592293110705685 : Int64)))), .second, .val (.long (own_f0_2 x0)), .second, .unset, .unset, .unset, .unset] [(.long (-4658895280553007687 : Int64)), (.long (own_f0_2 x0))])) rfl (by rw [hml]; rfl) (argsL := [(.long (-4658895280553007687 : Int64))]) (rest := [(.long (own_f0_2 x0))]) (lenOf pd_2 rfl) rfl (by show 2 * 0 + _ ≤ _; exact Nat.le_of_eq rfl) (hb hby at_50)
    obtain ⟨e3, X3⟩ := own_clean q3 Y3 rfl rfl
    obtain ⟨rfl, -, -⟩ := q3
    refine own_Goes.step st3 ?_
    show own_Goes p e below s (own_F0 Z x0 n0 h0) room_1.cells room_1.slots (T3.setTop (mkF m 53 #[.val (.long x0), .second, .val (.long (own_f1 x0)), .second, .val (.long (own_f0_1 x0)), .second, .val (.long ((own_f0_1 x0) * (own_f2 (-7723592293110705685 : Int64)))), .second, .val (.long (own_f0_2 x0)), .second, .unset, .unset, .unset, .unset] [(.long (own_f2 (-4658895280553007687 : Int64))), (.long (own_f0_2 x0))]))
    refine own_Goes.step (fun t k => XT.lmul X3.here hx rfl (hb hby at_53) rfl k) ?_
    show own_Goes p e below s (own_F0 Z x0 n0 h0) room_1.cells room_1.slots (T3.setTop (mkF m 54 #[.val (.long x0), .second, .val (.long (own_f1 x0)), .second, .val (.long (own_f0_1 x0)), .second, .val (.long ((own_f0_1 x0) * (own_f2 (-7723592293110705685 : Int64)))), .second, .val (.long (own_f0_2 x0)), .second, .unset, .unset, .unset, .unset] [(.long ((own_f0_2 x0) * (own_f2 (-4658895280553007687 : Int64))))]))
    refine own_Goes.step (fun t k => XT.lstore X3.here hx rfl (hb hby at_54) rfl (l' := #[.val (.long x0), .second, .val (.long (own_f1 x0)), .second, .val (.long (own_f0_1 x0)), .second, .val (.long ((own_f0_1 x0) * (own_f2 (-7723592293110705685 : Int64)))), .second, .val (.long (own_f0_2 x0)), .second, .val (.long ((own_f0_2 x0) * (own_f2 (-4658895280553007687 : Int64)))), .second, .unset, .unset]) rfl k) ?_
    show own_Goes p e below s (own_F0 Z x0 n0 h0) room_1.cells room_1.slots (T3.setTop (mkF m 56 #[.val (.long x0), .second, .val (.long (own_f1 x0)), .second, .val (.long (own_f0_1 x0)), .second, .val (.long ((own_f0_1 x0) * (own_f2 (-7723592293110705685 : Int64)))), .second, .val (.long (own_f0_2 x0)), .second, .val (.long ((own_f0_2 x0) * (own_f2 (-4658895280553007687 : Int64)))), .second, .unset, .unset] []))
    refine own_Goes.step (fun t k => XT.lload X3.here hx rfl (hb hby at_56) rfl k) ?_
    show own_Goes p e below s (own_F0 Z x0 n0 h0) room_1.cells room_1.slots (T3.setTop (mkF m 58 #[.val (.long x0), .second, .val (.long (own_f1 x0)), .second, .val (.long (own_f0_1 x0)), .second, .val (.long ((own_f0_1 x0) * (own_f2 (-7723592293110705685 : Int64)))), .second, .val (.long (own_f0_2 x0)), .second, .val (.long ((own_f0_2 x0) * (own_f2 (-4658895280553007687 : Int64)))), .second, .unset, .unset] [(.long ((own_f0_2 x0) * (own_f2 (-4658895280553007687 : Int64))))]))
    refine own_Goes.step (fun t k => XT.lload X3.here hx rfl (hb hby at_58) rfl k) ?_
    show own_Goes p e below s (own_F0 Z x0 n0 h0) room_1.cells room_1.slots (T3.setTop (mkF m 60 #[.val (.long x0), .second, .val (.long (own_f1 x0)), .second, .val (.long (own_f0_1 x0)), .second, .val (.long ((own_f0_1 x0) * (own_f2 (-7723592293110705685 : Int64)))), .second, .val (.long (own_f0_2 x0)), .second, .val (.long ((own_f0_2 x0) * (own_f2 (-4658895280553007687 : Int64)))), .second, .unset, .unset] [(.long ((own_f0_2 x0) * (own_f2 (-4658895280553007687 : Int64)))), (.long ((own_f0_2 x0) * (own_f2 (-4658895280553007687 : Int64))))]))
    refine own_Goes.step (fun t k => XT.bipushV X3.here hx rfl (30 : Int32) (hb hby at_60) (by decide) k) ?_
    show own_Goes p e below s (own_F0 Z x0 n0 h0) room_1.cells room_1.slots (T3.setTop (mkF m 62 #[.val (.long x0), .second, .val (.long (own_f1 x0)), .second, .val (.long (own_f0_1 x0)), .second, .val (.long ((own_f0_1 x0) * (own_f2 (-7723592293110705685 : Int64)))), .second, .val (.long (own_f0_2 x0)), .second, .val (.long ((own_f0_2 x0) * (own_f2 (-4658895280553007687 : Int64)))), .second, .unset, .unset] [(.int (30 : Int32)), (.long ((own_f0_2 x0) * (own_f2 (-4658895280553007687 : Int64)))), (.long ((own_f0_2 x0) * (own_f2 (-4658895280553007687 : Int64))))]))
    refine own_Goes.step (fun t k => XT.lushr X3.here hx rfl (hb hby at_62) rfl k) ?_
    show own_Goes p e below s (own_F0 Z x0 n0 h0) room_1.cells room_1.slots (T3.setTop (mkF m 63 #[.val (.long x0), .second, .val (.long (own_f1 x0)), .second, .val (.long (own_f0_1 x0)), .second, .val (.long ((own_f0_1 x0) * (own_f2 (-7723592293110705685 : Int64)))), .second, .val (.long (own_f0_2 x0)), .second, .val (.long ((own_f0_2 x0) * (own_f2 (-4658895280553007687 : Int64)))), .second, .unset, .unset] [(.long (XT.ushrL ((own_f0_2 x0) * (own_f2 (-4658895280553007687 : Int64))) (30 : Int32))), (.long ((own_f0_2 x0) * (own_f2 (-4658895280553007687 : Int64))))]))
    refine own_Goes.step (fun t k => XT.lxor X3.here hx rfl (hb hby at_63) rfl k) ?_
    show own_Goes p e below s (own_F0 Z x0 n0 h0) room_1.cells room_1.slots (T3.setTop (mkF m 64 #[.val (.long x0), .second, .val (.long (own_f1 x0)), .second, .val (.long (own_f0_1 x0)), .second, .val (.long ((own_f0_1 x0) * (own_f2 (-7723592293110705685 : Int64)))), .second, .val (.long (own_f0_2 x0)), .second, .val (.long ((own_f0_2 x0) * (own_f2 (-4658895280553007687 : Int64)))), .second, .unset, .unset] [(.long (((own_f0_2 x0) * (own_f2 (-4658895280553007687 : Int64))) ^^^ (XT.ushrL ((own_f0_2 x0) * (own_f2 (-4658895280553007687 : Int64))) (30 : Int32))))]))
    refine own_Goes.step (fun t k => XT.lload X3.here hx rfl (hb hby at_64) rfl k) ?_
    show own_Goes p e below s (own_F0 Z x0 n0 h0) room_1.cells room_1.slots (T3.setTop (mkF m 66 #[.val (.long x0), .second, .val (.long (own_f1 x0)), .second, .val (.long (own_f0_1 x0)), .second, .val (.long ((own_f0_1 x0) * (own_f2 (-7723592293110705685 : Int64)))), .second, .val (.long (own_f0_2 x0)), .second, .val (.long ((own_f0_2 x0) * (own_f2 (-4658895280553007687 : Int64)))), .second, .unset, .unset] [(.long ((own_f0_2 x0) * (own_f2 (-4658895280553007687 : Int64)))), (.long (((own_f0_2 x0) * (own_f2 (-4658895280553007687 : Int64))) ^^^ (XT.ushrL ((own_f0_2 x0) * (own_f2 (-4658895280553007687 : Int64))) (30 : Int32))))]))
    refine own_Goes.step (fun t k => XT.bipushV X3.here hx rfl (60 : Int32) (hb hby at_66) (by decide) k) ?_
    show own_Goes p e below s (own_F0 Z x0 n0 h0) room_1.cells room_1.slots (T3.setTop (mkF m 68 #[.val (.long x0), .second, .val (.long (own_f1 x0)), .second, .val (.long (own_f0_1 x0)), .second, .val (.long ((own_f0_1 x0) * (own_f2 (-7723592293110705685 : Int64)))), .second, .val (.long (own_f0_2 x0)), .second, .val (.long ((own_f0_2 x0) * (own_f2 (-4658895280553007687 : Int64)))), .second, .unset, .unset] [(.int (60 : Int32)), (.long ((own_f0_2 x0) * (own_f2 (-4658895280553007687 : Int64)))), (.long (((own_f0_2 x0) * (own_f2 (-4658895280553007687 : Int64))) ^^^ (XT.ushrL ((own_f0_2 x0) * (own_f2 (-4658895280553007687 : Int64))) (30 : Int32))))]))
    refine own_Goes.step (fun t k => XT.lushr X3.here hx rfl (hb hby at_68) rfl k) ?_
    show own_Goes p e below s (own_F0 Z x0 n0 h0) room_1.cells room_1.slots (T3.setTop (mkF m 69 #[.val (.long x0), .second, .val (.long (own_f1 x0)), .second, .val (.long (own_f0_1 x0)), .second, .val (.long ((own_f0_1 x0) * (own_f2 (-7723592293110705685 : Int64)))), .second, .val (.long (own_f0_2 x0)), .second, .val (.long ((own_f0_2 x0) * (own_f2 (-4658895280553007687 : Int64)))), .second, .unset, .unset] [(.long (XT.ushrL ((own_f0_2 x0) * (own_f2 (-4658895280553007687 : Int64))) (60 : Int32))), (.long (((own_f0_2 x0) * (own_f2 (-4658895280553007687 : Int64))) ^^^ (XT.ushrL ((own_f0_2 x0) * (own_f2 (-4658895280553007687 : Int64))) (30 : Int32))))]))
    refine own_Goes.step (fun t k => XT.lxor X3.here hx rfl (hb hby at_69) rfl k) ?_
    show own_Goes p e below s (own_F0 Z x0 n0 h0) room_1.cells room_1.slots (T3.setTop (mkF m 70 #[.val (.long x0), .second, .val (.long (own_f1 x0)), .second, .val (.long (own_f0_1 x0)), .second, .val (.long ((own_f0_1 x0) * (own_f2 (-7723592293110705685 : Int64)))), .second, .val (.long (own_f0_2 x0)), .second, .val (.long ((own_f0_2 x0) * (own_f2 (-4658895280553007687 : Int64)))), .second, .unset, .unset] [(.long ((((own_f0_2 x0) * (own_f2 (-4658895280553007687 : Int64))) ^^^ (XT.ushrL ((own_f0_2 x0) * (own_f2 (-4658895280553007687 : Int64))) (30 : Int32))) ^^^ (XT.ushrL ((own_f0_2 x0) * (own_f2 (-4658895280553007687 : Int64))) (60 : Int32))))]))
    refine own_Goes.step (fun t k => XT.lstore X3.here hx rfl (hb hby at_70) rfl (l' := #[.val (.long x0), .second, .val (.long (own_f1 x0)), .second, .val (.long (own_f0_1 x0)), .second, .val (.long ((own_f0_1 x0) * (own_f2 (-7723592293110705685 : Int64)))), .second, .val (.long (own_f0_2 x0)), .second, .val (.long ((own_f0_2 x0) * (own_f2 (-4658895280553007687 : Int64)))), .second, .val (.long (own_f0_3 x0)), .second]) rfl k) ?_
    show own_Goes p e below s (own_F0 Z x0 n0 h0) room_1.cells room_1.slots (T3.setTop (mkF m 72 #[.val (.long x0), .second, .val (.long (own_f1 x0)), .second, .val (.long (own_f0_1 x0)), .second, .val (.long ((own_f0_1 x0) * (own_f2 (-7723592293110705685 : Int64)))), .second, .val (.long (own_f0_2 x0)), .second, .val (.long ((own_f0_2 x0) * (own_f2 (-4658895280553007687 : Int64)))), .second, .val (.long (own_f0_3 x0)), .second] []))
    refine own_Goes.step (fun t k => XT.lload X3.here hx rfl (hb hby at_72) rfl k) ?_
    show own_Goes p e below s (own_F0 Z x0 n0 h0) room_1.cells room_1.slots (T3.setTop (mkF m 74 #[.val (.long x0), .second, .val (.long (own_f1 x0)), .second, .val (.long (own_f0_1 x0)), .second, .val (.long ((own_f0_1 x0) * (own_f2 (-7723592293110705685 : Int64)))), .second, .val (.long (own_f0_2 x0)), .second, .val (.long ((own_f0_2 x0) * (own_f2 (-4658895280553007687 : Int64)))), .second, .val (.long (own_f0_3 x0)), .second] [(.long (own_f0_3 x0))]))
    refine own_Goes.step (fun t k => XT.lloadN X3.here hx rfl (hb hby at_74) rfl k) ?_
    show own_Goes p e below s (own_F0 Z x0 n0 h0) room_1.cells room_1.slots (T3.setTop (mkF m 75 #[.val (.long x0), .second, .val (.long (own_f1 x0)), .second, .val (.long (own_f0_1 x0)), .second, .val (.long ((own_f0_1 x0) * (own_f2 (-7723592293110705685 : Int64)))), .second, .val (.long (own_f0_2 x0)), .second, .val (.long ((own_f0_2 x0) * (own_f2 (-4658895280553007687 : Int64)))), .second, .val (.long (own_f0_3 x0)), .second] [(.long x0), (.long (own_f0_3 x0))]))
    refine own_Goes.step (fun t k => XT.lcmp X3.here hx rfl (hb hby at_75) rfl k) ?_
    show own_Goes p e below s (own_F0 Z x0 n0 h0) room_1.cells room_1.slots (T3.setTop (mkF m 76 #[.val (.long x0), .second, .val (.long (own_f1 x0)), .second, .val (.long (own_f0_1 x0)), .second, .val (.long ((own_f0_1 x0) * (own_f2 (-7723592293110705685 : Int64)))), .second, .val (.long (own_f0_2 x0)), .second, .val (.long ((own_f0_2 x0) * (own_f2 (-4658895280553007687 : Int64)))), .second, .val (.long (own_f0_3 x0)), .second] [(.int (XT.cmpL (own_f0_3 x0) x0))]))
    by_cases hc4 : (own_f0_3 x0) = x0
    · refine own_Goes.step (fun t k => XS.ifNo X3.here hx rfl (hb hby at_76) rfl (XT.ll_ne_f hc4) k) ?_
      show own_Goes p e below s (own_F0 Z x0 n0 h0) room_1.cells room_1.slots (T3.setTop (mkF m 79 #[.val (.long x0), .second, .val (.long (own_f1 x0)), .second, .val (.long (own_f0_1 x0)), .second, .val (.long ((own_f0_1 x0) * (own_f2 (-7723592293110705685 : Int64)))), .second, .val (.long (own_f0_2 x0)), .second, .val (.long ((own_f0_2 x0) * (own_f2 (-4658895280553007687 : Int64)))), .second, .val (.long (own_f0_3 x0)), .second] []))
      refine own_Goes.step (fun t k => XT.iconstV X3.here hx rfl (1 : Int32) (hb hby at_79) (by decide) k) ?_
      show own_Goes p e below s (own_F0 Z x0 n0 h0) room_1.cells room_1.slots (T3.setTop (mkF m 80 #[.val (.long x0), .second, .val (.long (own_f1 x0)), .second, .val (.long (own_f0_1 x0)), .second, .val (.long ((own_f0_1 x0) * (own_f2 (-7723592293110705685 : Int64)))), .second, .val (.long (own_f0_2 x0)), .second, .val (.long ((own_f0_2 x0) * (own_f2 (-4658895280553007687 : Int64)))), .second, .val (.long (own_f0_3 x0)), .second] [(.int (1 : Int32))]))
      refine own_Goes.step (fun t k => XS.goto X3.here hx rfl (pc0 := 80) (pc' := 84) rfl (hb hby at_80) (by decide) (by decide) k) ?_
      show own_Goes p e below s (own_F0 Z x0 n0 h0) room_1.cells room_1.slots (T3.setTop (mkF m 84 #[.val (.long x0), .second, .val (.long (own_f1 x0)), .second, .val (.long (own_f0_1 x0)), .second, .val (.long ((own_f0_1 x0) * (own_f2 (-7723592293110705685 : Int64)))), .second, .val (.long (own_f0_2 x0)), .second, .val (.long ((own_f0_2 x0) * (own_f2 (-4658895280553007687 : Int64)))), .second, .val (.long (own_f0_3 x0)), .second] [(.int (1 : Int32))]))
      exact own_endN X3 hx Bd.notSynchronized (t := .boolean) Bd.returns (by simp) (hb hby at_84) ⟨(congrArg (fun z => some (Value.int z)) (show (1 : Int32) = own_f0 x0 from by simp only [own_f0, if_pos hc4])), N0⟩ (by decide) (by decide)
    · refine own_Goes.step (fun t k => XS.ifYes X3.here hx rfl (pc0 := 76) (pc' := 83) rfl (hb hby at_76) rfl (XT.ll_ne_t hc4) (by decide) (by decide) k) ?_
      show own_Goes p e below s (own_F0 Z x0 n0 h0) room_1.cells room_1.slots (T3.setTop (mkF m 83 #[.val (.long x0), .second, .val (.long (own_f1 x0)), .second, .val (.long (own_f0_1 x0)), .second, .val (.long ((own_f0_1 x0) * (own_f2 (-7723592293110705685 : Int64)))), .second, .val (.long (own_f0_2 x0)), .second, .val (.long ((own_f0_2 x0) * (own_f2 (-4658895280553007687 : Int64)))), .second, .val (.long (own_f0_3 x0)), .second] []))
      refine own_Goes.step (fun t k => XT.iconstV X3.here hx rfl (0 : Int32) (hb hby at_83) (by decide) k) ?_
      show own_Goes p e below s (own_F0 Z x0 n0 h0) room_1.cells room_1.slots (T3.setTop (mkF m 84 #[.val (.long x0), .second, .val (.long (own_f1 x0)), .second, .val (.long (own_f0_1 x0)), .second, .val (.long ((own_f0_1 x0) * (own_f2 (-7723592293110705685 : Int64)))), .second, .val (.long (own_f0_2 x0)), .second, .val (.long ((own_f0_2 x0) * (own_f2 (-4658895280553007687 : Int64)))), .second, .val (.long (own_f0_3 x0)), .second] [(.int (0 : Int32))]))
      exact own_endN X3 hx Bd.notSynchronized (t := .boolean) Bd.returns (by simp) (hb hby at_84) ⟨(congrArg (fun z => some (Value.int z)) (show (0 : Int32) = own_f0 x0 from by simp only [own_f0, if_neg hc4])), N0⟩ (by decide) (by decide)
  obtain ⟨t2, o2, q1, q2, q3, q4⟩ := hgo
  exact ⟨t2, o2, castTop (ef_0 m x0) q1, q2, q3, q4⟩
theorem own_sh30 (x : Int64) : (XT.ushrL x (30 : Int32)).toBitVec = x.toBitVec >>> 30 := by simp [XT.ushrL]
theorem own_sh60 (x : Int64) : (XT.ushrL x (60 : Int32)).toBitVec = x.toBitVec >>> 60 := by simp [XT.ushrL]
theorem own_sh27 (x : Int64) : (XT.ushrL x (27 : Int32)).toBitVec = x.toBitVec >>> 27 := by simp [XT.ushrL]
theorem own_sh54 (x : Int64) : (XT.ushrL x (54 : Int32)).toBitVec = x.toBitVec >>> 54 := by simp [XT.ushrL]
theorem own_sh31 (x : Int64) : (XT.ushrL x (31 : Int32)).toBitVec = x.toBitVec >>> 31 := by simp [XT.ushrL]
theorem own_sh62 (x : Int64) : (XT.ushrL x (62 : Int32)).toBitVec = x.toBitVec >>> 62 := by simp [XT.ushrL]
theorem own_xs (x : BitVec 64) (k j : Nat) (hj : j = k + k) (hk : 64 ≤ k + k + k) : ((x ^^^ x >>> k) ^^^ (x ^^^ x >>> k) >>> k) ^^^ (x ^^^ x >>> k) >>> j = x := by
  subst hj
  rw [BitVec.ushiftRight_xor_distrib, BitVec.ushiftRight_xor_distrib, ← BitVec.shiftRight_add, ← BitVec.shiftRight_add]
  have hz : x >>> (k + (k + k)) = 0#64 := BitVec.ushiftRight_eq_zero (by omega)
  rw [hz]
  generalize x >>> k = a
  generalize x >>> (k + k) = b
  simp only [BitVec.xor_zero]
  rw [BitVec.xor_assoc, BitVec.xor_assoc, BitVec.xor_assoc a b b, BitVec.xor_self, BitVec.xor_zero, BitVec.xor_self, BitVec.xor_zero]
theorem own_un31 (y : Int64) : (((y ^^^ (XT.ushrL y (31 : Int32))) ^^^ (XT.ushrL (y ^^^ (XT.ushrL y (31 : Int32))) (31 : Int32))) ^^^ (XT.ushrL (y ^^^ (XT.ushrL y (31 : Int32))) (62 : Int32))) = y := by
  apply Int64.toBitVec_inj.mp
  rw [Int64.toBitVec_xor, Int64.toBitVec_xor, own_sh62, own_sh31, Int64.toBitVec_xor, own_sh31]
  exact own_xs _ 31 62 rfl (by decide)
theorem own_un27 (y : Int64) : (((y ^^^ (XT.ushrL y (27 : Int32))) ^^^ (XT.ushrL (y ^^^ (XT.ushrL y (27 : Int32))) (27 : Int32))) ^^^ (XT.ushrL (y ^^^ (XT.ushrL y (27 : Int32))) (54 : Int32))) = y := by
  apply Int64.toBitVec_inj.mp
  rw [Int64.toBitVec_xor, Int64.toBitVec_xor, own_sh54, own_sh27, Int64.toBitVec_xor, own_sh27]
  exact own_xs _ 27 54 rfl (by decide)
theorem own_un30 (y : Int64) : (((y ^^^ (XT.ushrL y (30 : Int32))) ^^^ (XT.ushrL (y ^^^ (XT.ushrL y (30 : Int32))) (30 : Int32))) ^^^ (XT.ushrL (y ^^^ (XT.ushrL y (30 : Int32))) (60 : Int32))) = y := by
  apply Int64.toBitVec_inj.mp
  rw [Int64.toBitVec_xor, Int64.toBitVec_xor, own_sh60, own_sh30, Int64.toBitVec_xor, own_sh30]
  exact own_xs _ 30 60 rfl (by decide)
theorem own_inv1 : (-7723592293110705685 : Int64) * own_f2 (-7723592293110705685) = 1 := by decide +kernel
theorem own_inv2 : (-4658895280553007687 : Int64) * own_f2 (-4658895280553007687) = 1 := by decide +kernel
theorem own_law (x0 : Int64) : own_f0 x0 = 1 := by
  have s1 : own_f0_1 x0 = own_f1_2 x0 := by unfold own_f0_1 own_f1; exact own_un31 _
  have s2 : own_f0_2 x0 = own_f1_1 x0 := by
    unfold own_f0_2
    rw [s1]
    have e : own_f1_2 x0 * own_f2 (-7723592293110705685) = own_f1_1 x0 ^^^ XT.ushrL (own_f1_1 x0) 27 := by
      unfold own_f1_2
      rw [Int64.mul_assoc, own_inv1, Int64.mul_one]
    rw [e]
    exact own_un27 _
  have s3 : own_f0_3 x0 = x0 := by
    unfold own_f0_3
    rw [s2]
    have e : own_f1_1 x0 * own_f2 (-4658895280553007687) = x0 ^^^ XT.ushrL x0 30 := by
      unfold own_f1_1
      rw [Int64.mul_assoc, own_inv2, Int64.mul_one]
    rw [e]
    exact own_un30 _
  rw [own_f0, if_pos s3]
set_option maxRecDepth 65536 in
set_option maxHeartbeats 40000000 in
theorem comes_1 {Post : Tables → Env → Array Value → State → Outcome → State → Prop} (hpost : ∀ tb e args s v u, (limb_1_1.after args s (.returned v) u = true ∧ limb_1_2.after args s (.returned v) u = true ∧ True) → FrameEnd s (.returned v) u (Jvm.fieldLocs frame_1_writes args s ++ Jvm.arrayLocs frame_1_arrays args s ++ Jvm.staticLocs frame_1_statics s) 0 0 → Post tb e args s (.returned v) u) :
    ArmFor flags0 classFile x code maxLocals ret World_1 tables_1 room_1 Calls_1 rest_1 Pre_1 Post := by
  intro l hfl _ _ p e ha hc hk s m args below hf hA hF happ hP
  obtain ⟨hcalls, hrest, hpre⟩ := hP
  obtain ⟨-, -, -, hnamed, -, -, -, hat⟩ := (Spec.applies_iff hf).mp happ
  obtain ⟨hg, hn⟩ := and_e (Cond.before_iff.mp (show (Jvm.Cond.and given_1 narrow_1).before args s = true from hpre))
  obtain ⟨hcount, hr0⟩ := and_e hg
  obtain ⟨w0, rfl⟩ : ∃ w0 : Value, args = #[w0] := by
    have hs : args.size = 1 := by simpa [Cond.value, given_1] using hcount
    obtain ⟨L⟩ := args
    match L, hs with
    | [w0], _ => exact ⟨w0, rfl⟩
  have hw := fun d (hd : d ∈ tables_1) => atoms_spec (ws := Jvm.Cond.code x code maxLocals ret :: tables_1) hat d (List.mem_cons_of_mem _ hd)
  obtain ⟨i0, ev0⟩ := isL_v hr0
  obtain rfl : w0 = (.long i0) := Option.some.inj ev0
  obtain ⟨n, o, h1, h2, h3, _, L, rfl, ⟨rfl, N⟩, hq⟩ := own_m0 l s _ hw tables_1 i0 s.heap.size s.heap (Nat.le_refl _) p e ha hc hk s m _ below hf ((Spec.applies_iff_loose hf).mp happ).1 ⟨rfl, State.Warmed39.refl s, rfl⟩ trivial
  rw [own_law i0] at h3 hq
  refine ⟨n, _, h1, h2, h3, hpost _ _ _ _ _ _ ⟨Cond.after_iff.mpr rfl, Cond.after_iff.mpr (eq_i res_at (Term.int_eval (1)) rfl), trivial⟩ ⟨hq.1, hq.2.1, (hq.2.2.sift fun y hy => Or.inr (N y hy)).mono (by decide) (by decide)⟩⟩
theorem main_1_1 : Claimed_1_1 := comes_1 fun _ _ _ _ _ _ h hF => ⟨h.1, hF⟩
theorem main_1_2 : Claimed_1_2 := comes_1 fun _ _ _ _ _ _ h hF => ⟨h.2.1, hF⟩
end Jvm.Pilot.@@N@@
namespace Jvm.Pilot.@@N@@
open Jvm Jvm.ClassFile Sem Op Lib Jvm.Free Jvm.Stand Jvm.Pilot.@@N@@.Jvm.D
/-! MADE BY PROGRAM (witnessworld.py) out of the Statement's table words and the real class files: 9 classes; the members and pool entries that the words name. The judged class is class 1, her method 1. -/
namespace start1
open Jvm.ClassFile
def u (s : String) : CpInfo := .utf8 (stringToUtf16 s)
/-- a pool by its gaps: so many unusable entries, then the entry; so many at the end -/
def gap : Nat → List CpInfo → List CpInfo
  | 0, r => r
  | n + 1, r => .unusable :: gap n r
def poolList (es : List (Nat × CpInfo)) (last : Nat) : List CpInfo := es.foldr (fun e r => gap e.1 (e.2 :: r)) (gap last [])
def pool (es : List (Nat × CpInfo)) (last : Nat) : Array CpInfo := ⟨poolList es last⟩
def fileOf (pool : Array CpInfo) (this : Nat) (attrs : Array Attribute := #[]) (ms : Array MethodInfo := #[]) (fl : Nat := 33) (sup : Nat := 0) (ifs : Array Nat := #[]) (fds : Array FieldInfo := #[]) : ClassFile where
  minorVersion := 0
  majorVersion := 65
  constantPool := pool
  accessFlags := fl
  thisClass := this
  superClass := sup
  interfaces := ifs
  fields := fds
  methods := ms
  attributes := attrs
def plain (name : String) (sup : Option ClassId) : Class where
  name := name
  kind := .ordinary
  loader := none
  accessFlags := 33
  super := sup
  interfaces := #[]
  cf := none
  fields := #[]
  methods := #[]
  instanceTypes := #[]
  staticTypes := #[]
  resolved := #[]
  callSites := []
  init := .initialized
  statics := none
  mirror := none

def pool0 : Array CpInfo := pool [(5, u "<init>"), (0, u "()V"), (1, .class_ 10), (1, u "java/lang/Object")] 113

def k0m0 : Method := { name := "<init>", desc := "()V", sig := { parameters := [], returnType := none }, accessFlags := 1, code := none }
/-- java/lang/Object -/
def k0 : Class := { plain "java/lang/Object" none with
  accessFlags := 33
  interfaces := #[]
  cf := some (fileOf pool0 8 #[] #[{ accessFlags := 1, nameIndex := 5, descriptorIndex := 6, attributes := #[] }] 33 0 #[] #[])
  fields := #[]
  methods := #[k0m0]
  instanceTypes := #[]
  staticTypes := #[]
  resolved := Array.replicate 124 none
  statics := none }

def pool1 : Array CpInfo := pool [(2, .class_ 4), (1, u "java/lang/Object"), (0, u "<init>"), (0, u "()V"), (0, .methodref 8 9), (0, .class_ 10), (0, .nameAndType 11 12), (0, u "com/example/strati/strati/sim/SplitMix64"), (0, u "mix"), (0, u "(J)J"), (0, .long 10723151780598845931), (1, .methodref 16 17), (0, .class_ 18), (0, .nameAndType 19 12), (0, u "com/example/strati/strati/sim/SplitMix64MixPinLaw"), (0, u "inverse"), (0, .long 13787848793156543929), (1, .long 2), (3, u "law"), (0, u "(J)Z")] 3

def k1m0 : Method := { name := "<init>", desc := "()V", sig := { parameters := [], returnType := none }, accessFlags := 1, code := none }
def k1c1 : Code := { maxStack := 5, maxLocals := 14, code := code, exceptionTable := #[], attributes := #[] }
def k1m1 : Method := { name := "law", desc := "(J)Z", sig := { parameters := [.long], returnType := some .boolean }, accessFlags := 9, code := some k1c1 }
def k1c2 : Code := { maxStack := 8, maxLocals := 4, code := method_3_code, exceptionTable := #[], attributes := #[] }
def k1m2 : Method := { name := "inverse", desc := "(J)J", sig := { parameters := [.long], returnType := some .long }, accessFlags := 10, code := some k1c2 }
/-- com/example/strati/strati/sim/SplitMix64MixPinLaw -/
def k1 : Class := { plain "com/example/strati/strati/sim/SplitMix64MixPinLaw" (some 0) with
  accessFlags := 49
  interfaces := #[]
  cf := some (fileOf pool1 16 #[] #[{ accessFlags := 1, nameIndex := 5, descriptorIndex := 6, attributes := #[] }, { accessFlags := 9, nameIndex := 26, descriptorIndex := 27, attributes := #[] }, { accessFlags := 10, nameIndex := 19, descriptorIndex := 12, attributes := #[] }] 49 2 #[] #[])
  fields := #[]
  methods := #[k1m0, k1m1, k1m2]
  instanceTypes := #[]
  staticTypes := #[]
  resolved := Array.replicate 31 none
  statics := none }

def pool2 : Array CpInfo := pool [(2, .class_ 4), (1, u "java/lang/Object"), (3, .class_ 10), (1, u "com/example/strati/strati/sim/SplitMix64"), (0, u "state"), (0, u "J"), (4, u "mix"), (0, u "(J)J"), (10, .long 13787848793156543929), (1, .long 10723151780598845931), (1, u "GAMMA")] 10

def k2c0 : Code := { maxStack := 5, maxLocals := 2, code := prog_54_method_5_code, exceptionTable := #[], attributes := #[] }
def k2m0 : Method := { name := "mix", desc := "(J)J", sig := { parameters := [.long], returnType := some .long }, accessFlags := 8, code := some k2c0 }
/-- com/example/strati/strati/sim/SplitMix64 -/
def k2 : Class := { plain "com/example/strati/strati/sim/SplitMix64" (some 0) with
  accessFlags := 48
  interfaces := #[]
  cf := some (fileOf pool2 8 #[] #[{ accessFlags := 8, nameIndex := 17, descriptorIndex := 18, attributes := #[] }] 48 2 #[] #[{ accessFlags := 26, nameIndex := 33, descriptorIndex := 12, attributes := #[] }, { accessFlags := 2, nameIndex := 11, descriptorIndex := 12, attributes := #[] }])
  fields := #[{ name := "GAMMA", type := .long, accessFlags := 26, slot := 0, constantValue := 0 }, { name := "state", type := .long, accessFlags := 2, slot := 0, constantValue := 0 }]
  methods := #[k2m0]
  instanceTypes := #[.long]
  staticTypes := #[.long]
  resolved := Array.replicate 44 none
  statics := none }

def pool3 : Array CpInfo := pool [(1, u "java/lang/Cloneable"), (0, .class_ 1), (0, u "java/lang/Object"), (0, .class_ 3)] 3

/-- java/lang/Cloneable -/
def k3 : Class := { plain "java/lang/Cloneable" (some 0) with
  accessFlags := 1537
  interfaces := #[]
  cf := some (fileOf pool3 2 #[] #[] 1537 4 #[] #[])
  fields := #[]
  methods := #[]
  instanceTypes := #[]
  staticTypes := #[]
  resolved := Array.replicate 8 none
  statics := none }

def pool4 : Array CpInfo := pool [(1, u "java/io/Serializable"), (0, .class_ 1), (0, u "java/lang/Object"), (0, .class_ 3)] 3

/-- java/io/Serializable -/
def k4 : Class := { plain "java/io/Serializable" (some 0) with
  accessFlags := 1537
  interfaces := #[]
  cf := some (fileOf pool4 2 #[] #[] 1537 4 #[] #[])
  fields := #[]
  methods := #[]
  instanceTypes := #[]
  staticTypes := #[]
  resolved := Array.replicate 8 none
  statics := none }

/-- the primitive byte -/
def k5 : Class := { plain "byte" none with kind := .primitive 'B', accessFlags := 0x411 }
/-- [B -/
def k6 : Class := { plain "[B" (some 0) with kind := .array 5 .byte, interfaces := #[3, 4], accessFlags := 1041 }

/-- the primitive int -/
def k7 : Class := { plain "int" none with kind := .primitive 'I', accessFlags := 0x411 }
/-- [I -/
def k8 : Class := { plain "[I" (some 0) with kind := .array 7 .int, interfaces := #[3, 4], accessFlags := 1041 }

def heap : Heap := #[]
def classes : Array Class := #[k0, k1, k2, k3, k4, k5, k6, k7, k8]
def interned : List (Array UInt16 × Addr) := []
def slotsUsed : Nat := 0
def theMethod : MethodId := ⟨1, 1⟩
def args0 : Array Value := #[.long 5]
def aboutOver (below : List Frame) : State where
  vm := { classes := classes, interned := interned.toArray }
  heap := heap
  slotsUsed := slotsUsed
  threads := #[{ frames := .invoking theMethod args0 :: below }]
def below0 : List Frame := [.native { method := ⟨0, 0⟩, args := #[] }]
def about1 : State := aboutOver below0
def p0 : Program := .bare "" "" ""
def e0 : Env := launch0.env 0 0 0
theorem w_frames : about1.frames = Frame.invoking theMethod args0 :: below0 := rfl
set_option maxRecDepth 65536 in
theorem w_args : argsFit about1.vm theMethod args0 = true := by decide +kernel
set_option maxRecDepth 65536 in
theorem w_heap : heapFits about1 = true := by decide +kernel
set_option maxRecDepth 65536 in
theorem w_runnable : about1.curStatus? = some .runnable := by decide +kernel
set_option maxRecDepth 65536 in
theorem w_alone : about1.alone = true := by decide +kernel
set_option maxRecDepth 65536 in
theorem w_named : about1.methodNamed? x = some theMethod := by decide +kernel
set_option maxRecDepth 65536 in
theorem w_hears : about1.hears theMethod below0 = true := by decide +kernel
set_option maxRecDepth 65536 in
theorem w_ripe : about1.ripe theMethod args0 below0 = true := by decide +kernel
theorem w_running : about1.status = .running := rfl
set_option maxRecDepth 65536 in
theorem w_room : about1.hasRoom e0.platform room_1 = true :=
  launch0.hasRoom_least _ room_1 (by decide +kernel) (by decide +kernel) (by decide +kernel) (by decide +kernel) (by decide +kernel) (by decide +kernel)
theorem allAtoms_all (ts : List Jvm.Cond) (a : Array Jvm.Value) (st : Jvm.State) : (allAtoms ts).before a st = ts.all (fun c => c.before a st) := by
  induction ts with
  | nil => rfl
  | cons c t ih =>
    show (Jvm.Cond.and c (allAtoms t)).before a st = _
    rw [Jvm.Cond.before_and, ih, List.all_cons]
def words1 : List Jvm.Cond := Jvm.Cond.code x code maxLocals ret :: tables_1
/-- a 'code' word, met by the world's own term for the bytes: nothing is compared byte by byte -/
theorem code_word {y : MethodName} {bytes : ByteArray} {mx : Nat} {rt : Option FieldType} {a : Array Value} {s : State} {m : MethodId} {meth : Method} {c : Code} (h1 : s.methodNamed? y = some m) (h2 : s.vm.method? m = some meth) (h3 : meth.code = some c) (h4 : c.code = bytes)
    (h5 : (c.maxLocals == mx && c.exceptionTable.isEmpty && decide (c.maxStack ≤ mostOperands) && decide (meth.sig.returnType = rt) && !meth.locks && decide (parseMethodDescriptor y.desc = some meth.sig)) = true) : (Jvm.Cond.code y bytes mx rt).before a s = true := by
  simp only [Bool.and_eq_true, beq_iff_eq, Bool.not_eq_true', decide_eq_true_eq] at h5
  obtain ⟨⟨⟨⟨⟨g1, g2⟩, g3⟩, g4⟩, g5⟩, g6⟩ := h5
  simp [Cond.before, Cond.holds, Cond.value, h1, h2, h3, h4, g1, g2, g3, g4, g5, g6]
def isCode : Jvm.Cond → Bool
  | .code _ _ _ _ => true
  | _ => false
theorem all_split {L : List Jvm.Cond} {P : Jvm.Cond → Bool} (h1 : L.all (fun c => isCode c || P c) = true) (h2 : ∀ c ∈ L.filter isCode, P c = true) : L.all P = true := by
  refine List.all_eq_true.mpr fun c hc => ?_
  have h := List.all_eq_true.mp h1 c hc
  rcases Bool.eq_false_or_eq_true (isCode c) with hi | hi
  · exact h2 c (List.mem_filter.mpr ⟨hc, hi⟩)
  · simpa [hi] using h
set_option maxRecDepth 65536 in
theorem w_c0 : (Jvm.Cond.code x code maxLocals ret).before args0 about1 = true := code_word (m := ⟨1, 1⟩) (meth := k1m1) (c := k1c1) (by decide +kernel) rfl rfl rfl (by decide +kernel)
set_option maxRecDepth 65536 in
theorem w_c1 : (Jvm.Cond.code ({ cls := "com/example/strati/strati/sim/SplitMix64", name := "mix", desc := "(J)J" } : Jvm.MethodName) prog_54_method_5_code (2 : Nat) (Option.some Jvm.ClassFile.FieldType.long)).before args0 about1 = true := code_word (m := ⟨2, 0⟩) (meth := k2m0) (c := k2c0) (by decide +kernel) rfl rfl rfl (by decide +kernel)
set_option maxRecDepth 65536 in
theorem w_c2 : (Jvm.Cond.code ({ cls := "com/example/strati/strati/sim/SplitMix64MixPinLaw", name := "inverse", desc := "(J)J" } : Jvm.MethodName) method_3_code (4 : Nat) (Option.some Jvm.ClassFile.FieldType.long)).before args0 about1 = true := code_word (m := ⟨1, 2⟩) (meth := k1m2) (c := k1c2) (by decide +kernel) rfl rfl rfl (by decide +kernel)
def codes1 : List Jvm.Cond := [Jvm.Cond.code x code maxLocals ret, Jvm.Cond.code ({ cls := "com/example/strati/strati/sim/SplitMix64", name := "mix", desc := "(J)J" } : Jvm.MethodName) prog_54_method_5_code (2 : Nat) (Option.some Jvm.ClassFile.FieldType.long), Jvm.Cond.code ({ cls := "com/example/strati/strati/sim/SplitMix64MixPinLaw", name := "inverse", desc := "(J)J" } : Jvm.MethodName) method_3_code (4 : Nat) (Option.some Jvm.ClassFile.FieldType.long)]
set_option maxRecDepth 65536 in
theorem codes_eq : words1.filter isCode = codes1 := rfl
theorem w_codes : ∀ c ∈ words1.filter isCode, c.before args0 about1 = true := by
  rw [codes_eq]
  intro c hc
  simp only [codes1, List.mem_cons, List.not_mem_nil, or_false] at hc
  rcases hc with rfl | rfl | rfl
  · exact w_c0
  · exact w_c1
  · exact w_c2
set_option maxRecDepth 65536 in
theorem w_t1 : words1.all (fun c => isCode c || c.before args0 about1) = true := by decide +kernel
theorem w_tables : (allAtoms (Jvm.Cond.code x code maxLocals ret :: tables_1)).before args0 about1 = true := by
  rw [allAtoms_all]
  show words1.all (fun c => c.before args0 about1) = true
  refine all_split ?_ w_codes
  rw [w_t1]
set_option maxRecDepth 65536 in
theorem w_case : (Jvm.Cond.and given_1 narrow_1).before args0 about1 = true := by decide +kernel
theorem w_applies : (headSpec (Jvm.Cond.code x code maxLocals ret :: tables_1) room_1).applies x e0.platform about1 = true :=
  (Spec.applies_iff w_frames).mpr ⟨w_running, w_runnable, w_alone, w_named, w_hears, w_ripe, w_room, w_tables⟩
theorem atStart : AtStart classFile x code maxLocals ret World_1 tables_1 room_1 Calls_1 rest_1 Pre_1 launch0 p0 e0 about1 theMethod args0 below0 :=
  ⟨lists_1, trivial, launch0.admits_env _ _ _, launch0.least_env, fairChoices_fair.cas, fairChoices_fair.clock, w_frames, w_args, w_heap, w_applies, trivial, trivial, w_case⟩
end start1
theorem witness_1 : WitnessClaimed_1 := ⟨start1.p0, start1.e0, start1.about1, start1.theMethod, start1.args0, start1.below0, start1.atStart⟩
end Jvm.Pilot.@@N@@
