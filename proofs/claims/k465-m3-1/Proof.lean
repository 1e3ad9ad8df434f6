import JvmDerived
import JvmDerived.Pilot.@@N@@Statement
import JvmDerived.Pilot.@@N@@Code
set_option linter.unusedVariables false
set_option linter.unusedSimpArgs false
@@BLOCK:NumsL.lean.txt@@
namespace Jvm.RoadKit
open Sem ClassFile Op Lib Jvm.Stand Jvm.Free Jvm.LawKit
section New
variable {p : Program} {l : Launch} {e : Env} {R : Room} {s : State} {m : MethodId} {args : Array Value} {below : List Frame} {meth : Method} {c : Code} {T : State} {locs : List Loc} {cells slots : Nat}
theorem retI (X : Stand p l e R s m args below meth c T locs cells slots) (hx : p.tables.exec = Jvm.exec) {pc : Nat} {Ls : Array Slot} {z : Int32} {rest : List Value} (hret : meth.sig.returnType = some .int) (hd : decode c.code pc = .ok (.ireturn, 1)) {fs : List Frame}
    (hl : ∀ (f : JFrame) (acts : List Action), f.method = m → f.locked = none → f.entered = [] → (doReturn e (T.setTop f) acts (some (.int z))).1 = T.setFrames fs) : Steps p.tables e below (T.setTop (mkF m pc Ls (.int z :: rest))) (T.setFrames fs) := by
  have hm' : T.vm.method? m = some meth := X.method'
  have hn : narrow .int (.int z) = .int z := rfl
  show Steps p.tables e below (T.setTop { method := m, pc := pc, locals := Ls, stack := _ :: rest, locked := none }) _
  jvm_step X.here [X.here.top, hx, hd, hm', hret, hn]
  first | (intro acts; rw [hl _ acts rfl rfl rfl]) | rw [hl _ _ rfl rfl rfl]
  exact Steps.refl _
/-- the run from A comes to a return of which F says the value, the heap and the written places -/
def own_Goes (p : Program) (e : Env) (below : List Frame) (s : State) (F : Option Value → Heap → List Loc → Prop) (k n : Nat) (A : State) : Prop :=
  ∃ s₂ o, Steps p.tables e below A s₂ ∧ s₂.status = .running ∧ Ended s₂ below o ∧ ∃ v L, o = .returned v ∧ F v s₂.heap L ∧ FrameEnd s o s₂ L k n
variable {F : Option Value → Heap → List Loc → Prop} {k n : Nat}
theorem own_Goes.step {A B : State} (h : ∀ t, Steps p.tables e below B t → Steps p.tables e below A t) (g : own_Goes p e below s F k n B) : own_Goes p e below s F k n A := by
  obtain ⟨s₂, o, h1, h2⟩ := g
  exact ⟨s₂, o, h _ h1, h2⟩
theorem own_endI (X : Stand p l e R s m args below meth c T locs cells slots) (hx : p.tables.exec = Jvm.exec) (hlk : meth.locks = false) {pc : Nat} {Ls : Array Slot} {z : Int32} {rest : List Value} (hret : meth.sig.returnType = some .int) (hd : decode c.code pc = .ok (.ireturn, 1)) (hF : F (some (.int z)) T.heap locs) (hk : cells ≤ k) (hn : slots ≤ n) :
    own_Goes p e below s F k n (T.setTop (mkF m pc Ls (.int z :: rest))) := by
  obtain ⟨fs, hr, hrun, hended, hW, hsame⟩ := X.leave (v := some (.int z)) (fun h => by rw [hret] at h; cases h) hlk
  exact ⟨_, _, retI X hx hret hd hr, hrun, hended, _, _, rfl, hF, ⟨_, rfl⟩, hW, hsame.mono hk hn⟩
theorem own_endN (X : Stand p l e R s m args below meth c T locs cells slots) (hx : p.tables.exec = Jvm.exec) (hlk : meth.locks = false) {pc : Nat} {Ls : Array Slot} {z : Int32} {t : FieldType} {rest : List Value} (hret : meth.sig.returnType = some t) (ht : t = .boolean ∨ t = .byte ∨ t = .char ∨ t = .short) (hd : decode c.code pc = .ok (.ireturn, 1)) (hF : F (some (.int (nar t z))) T.heap locs) (hk : cells ≤ k) (hn : slots ≤ n) :
    own_Goes p e below s F k n (T.setTop (mkF m pc Ls (.int z :: rest))) := by
  obtain ⟨fs, hr, hrun, hended, hW, hsame⟩ := X.leave (v := some (.int (nar t z))) (fun h => by rw [hret] at h; cases h) hlk
  exact ⟨_, _, retN X hx hret ht hd hr, hrun, hended, _, _, rfl, hF, ⟨_, rfl⟩, hW, hsame.mono hk hn⟩
theorem own_endJ (X : Stand p l e R s m args below meth c T locs cells slots) (hx : p.tables.exec = Jvm.exec) (hlk : meth.locks = false) {pc : Nat} {Ls : Array Slot} {z : Int64} (hret : meth.sig.returnType = some .long) (hd : decode c.code pc = .ok (.lreturn, 1)) (hF : F (some (.long z)) T.heap locs) (hk : cells ≤ k) (hn : slots ≤ n) :
    own_Goes p e below s F k n (T.setTop (mkF m pc Ls [.long z])) := by
  obtain ⟨fs, hr, hrun, hended, hW, hsame⟩ := X.leave (v := some (.long z)) (fun h => by rw [hret] at h; cases h) hlk
  exact ⟨_, _, X.lreturnOut hx hret hd hr, hrun, hended, _, _, rfl, hF, ⟨_, rfl⟩, hW, hsame.mono hk hn⟩
theorem own_endV (X : Stand p l e R s m args below meth c T locs cells slots) (hx : p.tables.exec = Jvm.exec) (hlk : meth.locks = false) {pc : Nat} {Ls : Array Slot} (hret : meth.sig.returnType = none) (hd : decode c.code pc = .ok (.return_, 1)) (hF : F none T.heap locs) (hk : cells ≤ k) (hn : slots ≤ n) :
    own_Goes p e below s F k n (T.setTop (mkF m pc Ls [])) := by
  obtain ⟨fs, hr, hrun, hended, hW, hsame⟩ := X.leave (v := none) (fun _ => rfl) hlk
  exact ⟨_, _, X.returnOut hx hret hd hr, hrun, hended, _, _, rfl, hF, ⟨_, rfl⟩, hW, hsame.mono hk hn⟩
theorem own_endA (X : Stand p l e R s m args below meth c T locs cells slots) (hx : p.tables.exec = Jvm.exec) (hlk : meth.locks = false) {pc : Nat} {Ls : Array Slot} {w : Value} {t : FieldType} (hw : w.isRef = true) (hret : meth.sig.returnType = some t) (ht : t.isReference = true) (hd : decode c.code pc = .ok (.areturn, 1)) (hF : F (some w) T.heap locs) (hk : cells ≤ k) (hn : slots ≤ n) :
    own_Goes p e below s F k n (T.setTop (mkF m pc Ls [w])) := by
  obtain ⟨fs, hr, hrun, hended, hW, hsame⟩ := X.leave (v := some w) (fun h => by rw [hret] at h; cases h) hlk
  exact ⟨_, _, X.areturnOut hx hw hret ht hd hr, hrun, hended, _, _, rfl, hF, ⟨_, rfl⟩, hW, hsame.mono hk hn⟩
theorem own_lrem (x y : Int64) : x - x / y * y = x % y := by
  refine Int64.toInt_inj.mp ?_
  rw [Jvm.Kit.i64_rem, Int64.toInt_mod]
theorem own_lremM {g : JFrame} {target : State} (X : Stand p l e R s m args below meth c T locs cells slots) (hx : p.tables.exec = Jvm.exec) (hg : g.method = m) {x y : Int64} {rest : List Value} (hd : decode c.code g.pc = .ok (.lrem, 1)) (hs : g.stack = .long y :: .long x :: rest) (hy : y ≠ 0)
    (hr : Steps p.tables e below (T.setTop { g with pc := g.pc + 1, stack := .long (x % y) :: rest }) target) : Steps p.tables e below (T.setTop g) target :=
  XT.lrem X.here hx hg hd hs hy (by rw [own_lrem]; exact hr)
/-- the three calls, by a contract in this family, carried forward -/
theorem own_stat {Z : State} {a0 : Array Value} {h : Heap} (X : Stand p l e R s m args below meth c T locs cells slots) (hx : p.tables.exec = Jvm.exec) (hZ : Z.Warmed39 s.vm) (eT : T.heap = h) {own : String} {index : Nat} {y : MethodName} {bytes : ByteArray} {maxL : Nat} {ret : Option FieldType} {rm : Room} {W : Nat} {argsL rest : List Value} {Q : Option Value → Heap → List Loc → Prop}
    (hown : s.vm.findClass own = some m.cls) (wl : (Cond.methodLink own index y).before a0 Z = true) (wst : (Cond.static y).before a0 Z = true) (wi : (Cond.initialized y.cls).before a0 Z = true) (wc : (Cond.code y bytes maxL ret).before a0 Z = true) (hy : y.cls ≠ "java/lang/invoke/MethodHandle" ∧ y.cls ≠ "java/lang/invoke/VarHandle")
    (hM : MetFree l y (head1 [Cond.code y bytes maxL ret] rm) (fun a U => a = argsL.toArray ∧ Z.Warmed39 U.vm ∧ U.heap = h) (fun _ _ _ _ _ => True) (fun _ U o U' => ∃ w L, o = .returned w ∧ Q w U'.heap L ∧ FrameEnd U o U' L rm.cells rm.slots))
    (hf : rm.frames + 1 ≤ R.frames) (hl : W + (maxL + 11) + rm.locals ≤ R.locals) (hcells : cells + rm.cells ≤ R.cells) (hslots : slots + rm.slots ≤ R.slots)
    {g : JFrame} (hg : g.method = m) (hsize : g.locals.size = c.maxLocals) (hlen : ∀ sig, parseMethodDescriptor y.desc = some sig → argsL.length = sig.parameters.length) (hstack : g.stack = argsL.reverse ++ rest) (hW : 2 * g.monitorRoom + (rest.map fun v => v.category).sum ≤ W) (hdg : decode c.code g.pc = .ok (.invokestatic index, 3)) :
    ∃ w T' L, Q w T'.heap L ∧ Stand p l e R s m args below meth c T' (locs ++ L) (cells + rm.cells) (slots + rm.slots) ∧ ∀ t, Steps p.tables e below (T'.setTop { g with pc := g.pc + 3, stack := w.toList ++ rest }) t → Steps p.tables e below (T.setTop g) t := by
  have hB := backOf (R := R) (p := p) (e := e) (below := below) (args := args) (len := 3) (W := W) (Q := Q) hM hZ wc wi hf hl
  obtain ⟨w, vm₁, ⟨U, Lc, k1, n1⟩, -, X', ⟨L, hQ, hL, hC, hS⟩, st⟩ := Jvm.LawKit.callS X hx (y := y) hown (mvT hZ wl) (mvT hZ wst) (mvT hZ wi) (mvT hZ wc) hy hB (g := g) hg hsize hlen hstack hW hdg (fun _ _ => ⟨rfl, eT, hcells, hslots⟩)
  dsimp only [Pt.U, Pt.locs, Pt.cells, Pt.slots] at X' hQ hL hC hS st
  subst hL hC hS
  exact ⟨w, U, L, hQ, X', st⟩
theorem own_spec {Z : State} {a0 : Array Value} {h : Heap} (X : Stand p l e R s m args below meth c T locs cells slots) (hx : p.tables.exec = Jvm.exec) (hZ : Z.Warmed39 s.vm) (eT : T.heap = h) {own : String} {index : Nat} {y : MethodName} {bytes : ByteArray} {maxL : Nat} {rm : Room} {W : Nat} {a : Addr} {argsL rest : List Value} {Q : Option Value → Heap → List Loc → Prop}
    (hy1 : y.name = "<init>") (hown : s.vm.findClass own = some m.cls) (wl : (Cond.methodLink own index y).before a0 Z = true) (wst : (Cond.instanceMethod y).before a0 Z = true) (wi : (Cond.initialized y.cls).before a0 Z = true) (wc : (Cond.code y bytes maxL none).before a0 Z = true) (hy : y.cls ≠ "java/lang/invoke/MethodHandle" ∧ y.cls ≠ "java/lang/invoke/VarHandle")
    (hM : MetFree l y (head1 [Cond.code y bytes maxL none] rm) (fun b U => b = (.ref a :: argsL).toArray ∧ Z.Warmed39 U.vm ∧ U.heap = h) (fun _ _ _ _ _ => True) (fun _ U o U' => ∃ w L, o = .returned w ∧ Q w U'.heap L ∧ FrameEnd U o U' L rm.cells rm.slots))
    (hf : rm.frames + 1 ≤ R.frames) (hl : W + (maxL + 11) + rm.locals ≤ R.locals) (hcells : cells + rm.cells ≤ R.cells) (hslots : slots + rm.slots ≤ R.slots)
    {g : JFrame} (hg : g.method = m) (hsize : g.locals.size = c.maxLocals) (hlen : ∀ sig, parseMethodDescriptor y.desc = some sig → argsL.length = sig.parameters.length) (hstack : g.stack = argsL.reverse ++ .ref a :: rest) (hW : 2 * g.monitorRoom + (rest.map fun v => v.category).sum ≤ W) (hdg : decode c.code g.pc = .ok (.invokespecial index, 3)) :
    ∃ w T' L, Q w T'.heap L ∧ Stand p l e R s m args below meth c T' (locs ++ L) (cells + rm.cells) (slots + rm.slots) ∧ ∀ t, Steps p.tables e below (T'.setTop { g with pc := g.pc + 3, stack := w.toList ++ rest }) t → Steps p.tables e below (T.setTop g) t := by
  have hB := backOf (R := R) (p := p) (e := e) (below := below) (args := args) (len := 3) (W := W) (Q := Q) hM hZ wc wi hf hl
  obtain ⟨w, vm₁, ⟨U, Lc, k1, n1⟩, -, X', ⟨L, hQ, hL, hC, hS⟩, st⟩ := X.specialBack hx (y := y) hy1 hown (mvT hZ wl) (mvT hZ wst) (mvT hZ wc) hy hB (g := g) hg hsize (Steps.refl _) (a := a) hlen hstack hW hdg (fun _ _ => ⟨rfl, eT, hcells, hslots⟩)
  dsimp only [Pt.U, Pt.locs, Pt.cells, Pt.slots] at X' hQ hL hC hS st
  subst hL hC hS
  exact ⟨w, U, L, hQ, X', fun t k => st.trans k⟩
theorem own_virt {Z : State} {a0 : Array Value} {h : Heap} (X : Stand p l e R s m args below meth c T locs cells slots) (hx : p.tables.exec = Jvm.exec) (hZ : Z.Warmed39 s.vm) (eT : T.heap = h) {own C : String} {index : Nat} {y : MethodName} {bytes : ByteArray} {maxL : Nat} {ret : Option FieldType} {rm : Room} {W : Nat} {a : Addr} {argsL rest : List Value} {Q : Option Value → Heap → List Loc → Prop}
    (E : Exa Z h a C) (hown : s.vm.findClass own = some m.cls) (wl : (Cond.methodLink own index y).before a0 Z = true) (wd : (Cond.declares y).before a0 Z = true) (ws : (Cond.selects C y y).before a0 Z = true) (wst : (Cond.instanceMethod y).before a0 Z = true) (wi : (Cond.initialized y.cls).before a0 Z = true) (wc : (Cond.code y bytes maxL ret).before a0 Z = true) (hy : y.cls ≠ "java/lang/invoke/MethodHandle" ∧ y.cls ≠ "java/lang/invoke/VarHandle")
    (hM : MetFree l y (head1 [Cond.code y bytes maxL ret] rm) (fun b U => b = (.ref a :: argsL).toArray ∧ Z.Warmed39 U.vm ∧ U.heap = h) (fun _ _ _ _ _ => True) (fun _ U o U' => ∃ w L, o = .returned w ∧ Q w U'.heap L ∧ FrameEnd U o U' L rm.cells rm.slots))
    (hf : rm.frames + 1 ≤ R.frames) (hl : W + (maxL + 11) + rm.locals ≤ R.locals) (hcells : cells + rm.cells ≤ R.cells) (hslots : slots + rm.slots ≤ R.slots)
    {g : JFrame} (hg : g.method = m) (hsize : g.locals.size = c.maxLocals) (hlen : ∀ sig, parseMethodDescriptor y.desc = some sig → argsL.length = sig.parameters.length) (hstack : g.stack = argsL.reverse ++ .ref a :: rest) (hW : 2 * g.monitorRoom + (rest.map fun v => v.category).sum ≤ W) (hdg : decode c.code g.pc = .ok (.invokevirtual index, 3)) :
    ∃ w T' L, Q w T'.heap L ∧ Stand p l e R s m args below meth c T' (locs ++ L) (cells + rm.cells) (slots + rm.slots) ∧ ∀ t, Steps p.tables e below (T'.setTop { g with pc := g.pc + 3, stack := w.toList ++ rest }) t → Steps p.tables e below (T.setTop g) t := by
  have hB := backOf (R := R) (p := p) (e := e) (below := below) (args := args) (len := 3) (W := W) (Q := Q) hM hZ wc wi hf hl
  obtain ⟨cq, kq, qa, qb, qc⟩ := isOf hZ eT E
  obtain ⟨w, vm₁, ⟨U, Lc, k1, n1⟩, -, X', ⟨L, hQ, hL, hC, hS⟩, st⟩ := X.virtualBack hx (y := y) (z := y) hown (mvT hZ wl) (mvT hZ wd) (notFace_of_selects (args := #[]) (mvT hZ ws)) (mvT hZ ws) (mvT hZ wst) hy hB qa qc (g := g) hg hsize (Steps.refl _) hlen hstack hW hdg (fun _ _ => ⟨rfl, eT, hcells, hslots⟩)
  dsimp only [Pt.U, Pt.locs, Pt.cells, Pt.slots] at X' hQ hL hC hS st
  subst hL hC hS
  exact ⟨w, U, L, hQ, X', fun t k => st.trans k⟩
/-- a call that left nothing behind -/
theorem own_clean {h : Heap} {w v : Option Value} {T' : State} {L : List Loc} {k0 n0 : Nat} (q : w = v ∧ L = [] ∧ T'.heap = h) (X : Stand p l e R s m args below meth c T' (locs ++ L) (cells + k0) (slots + n0)) (hk : k0 = 0) (hn : n0 = 0) : T'.heap = h ∧ Stand p l e R s m args below meth c T' locs cells slots := by
  obtain ⟨-, rfl, hh⟩ := q
  subst hk hn
  rw [List.append_nil] at X
  exact ⟨hh, X⟩
theorem own_nin {a b : Addr} (q : b ≠ a) : b ∉ [a] := fun h => q (List.mem_singleton.mp h)
theorem own_kt {h0 : Heap} {ws : List Addr} {a : Addr} (q : a ∈ ws ∨ h0.size ≤ a) : ∀ x ∈ [a], x ∈ ws ∨ h0.size ≤ x := fun x hx => by
  cases List.mem_singleton.mp hx; exact q
end New
end Jvm.RoadKit
namespace Jvm.Pilot.@@N@@
open Jvm Jvm.ClassFile Sem Op Lib Jvm.Free Jvm.Stand Jvm.LawKit Jvm.RoadKit Bundle Jvm.Pilot.@@N@@.Jvm.D
/-! plain facts on ints and longs -/
theorem own_char16 (u : UInt16) : (u.toUInt32.toInt32).toInt = u.toNat := by
  have h := u.toNat_lt
  show BitVec.toInt u.toUInt32.toBitVec = _
  rw [BitVec.toInt_eq_toNat_of_lt (by simp; omega)]
  simp
theorem own_char (y : Int32) : 0 ≤ (y.toUInt32.toUInt16.toUInt32.toInt32).toInt ∧ (y.toUInt32.toUInt16.toUInt32.toInt32).toInt < 65536 := by
  rw [own_char16]
  have h := y.toUInt32.toUInt16.toNat_lt
  omega
theorem own_fin32 {P : Int32 → Prop} (n : Nat) (h : ∀ k : Fin n, P (Int32.ofNat k)) (c : Int32) (h0 : 0 ≤ c.toInt) (h1 : c.toInt < n) : P c := by
  have e : c = Int32.ofNat c.toInt.toNat := by
    apply Int32.toInt_inj.mp
    have hb := c.toInt_lt
    rw [Int32.toInt_ofNat_of_lt (by omega)]
    omega
  rw [e]
  exact h ⟨c.toInt.toNat, by omega⟩
theorem own_lt32 (x y : Int32) : (x < y) ↔ x.toInt < y.toInt := Int32.lt_iff_toInt_lt
theorem own_eq32 (x y : Int32) : (x = y) ↔ x.toInt = y.toInt := Int32.toInt_inj.symm
theorem own_lt64 (x y : Int64) : (x < y) ↔ x.toInt < y.toInt := Int64.lt_iff_toInt_lt
theorem own_eq64 (x y : Int64) : (x = y) ↔ x.toInt = y.toInt := Int64.toInt_inj.symm
theorem d4_0 : decode method_4_code 0 = .ok (.iload_n 0, 1) := by decide +kernel
theorem d4_1 : decode method_4_code 1 = .ok (.ifCond .eq 9, 3) := by decide +kernel
theorem d4_4 : decode method_4_code 4 = .ok (.iload_n 1, 1) := by decide +kernel
theorem d4_5 : decode method_4_code 5 = .ok (.ifCond .eq 5, 3) := by decide +kernel
theorem d4_8 : decode method_4_code 8 = .ok (.iconst 0, 1) := by decide +kernel
theorem d4_9 : decode method_4_code 9 = .ok (.ireturn, 1) := by decide +kernel
theorem d4_10 : decode method_4_code 10 = .ok (.iload_n 0, 1) := by decide +kernel
theorem d4_11 : decode method_4_code 11 = .ok (.ifCond .eq 5, 3) := by decide +kernel
theorem d4_14 : decode method_4_code 14 = .ok (.iconst 1, 1) := by decide +kernel
theorem d4_15 : decode method_4_code 15 = .ok (.ireturn, 1) := by decide +kernel
theorem d4_16 : decode method_4_code 16 = .ok (.iload_n 1, 1) := by decide +kernel
theorem d4_17 : decode method_4_code 17 = .ok (.ifCond .eq 5, 3) := by decide +kernel
theorem d4_20 : decode method_4_code 20 = .ok (.iconst (-1), 1) := by decide +kernel
theorem d4_21 : decode method_4_code 21 = .ok (.ireturn, 1) := by decide +kernel
theorem d4_22 : decode method_4_code 22 = .ok (.lload_n 2, 1) := by decide +kernel
theorem d4_23 : decode method_4_code 23 = .ok (.lload 4, 2) := by decide +kernel
theorem d4_25 : decode method_4_code 25 = .ok (.ldiv, 1) := by decide +kernel
theorem d4_26 : decode method_4_code 26 = .ok (.lstore 10, 2) := by decide +kernel
theorem d4_28 : decode method_4_code 28 = .ok (.lload 6, 2) := by decide +kernel
theorem d4_30 : decode method_4_code 30 = .ok (.lload 8, 2) := by decide +kernel
theorem d4_32 : decode method_4_code 32 = .ok (.ldiv, 1) := by decide +kernel
theorem d4_33 : decode method_4_code 33 = .ok (.lstore 12, 2) := by decide +kernel
theorem d4_35 : decode method_4_code 35 = .ok (.lload 10, 2) := by decide +kernel
theorem d4_37 : decode method_4_code 37 = .ok (.lload 12, 2) := by decide +kernel
theorem d4_39 : decode method_4_code 39 = .ok (.lcmp, 1) := by decide +kernel
theorem d4_40 : decode method_4_code 40 = .ok (.ifCond .ge 5, 3) := by decide +kernel
theorem d4_43 : decode method_4_code 43 = .ok (.iconst (-1), 1) := by decide +kernel
theorem d4_44 : decode method_4_code 44 = .ok (.ireturn, 1) := by decide +kernel
theorem d4_45 : decode method_4_code 45 = .ok (.lload 10, 2) := by decide +kernel
theorem d4_47 : decode method_4_code 47 = .ok (.lload 12, 2) := by decide +kernel
theorem d4_49 : decode method_4_code 49 = .ok (.lcmp, 1) := by decide +kernel
theorem d4_50 : decode method_4_code 50 = .ok (.ifCond .le 5, 3) := by decide +kernel
theorem d4_53 : decode method_4_code 53 = .ok (.iconst 1, 1) := by decide +kernel
theorem d4_54 : decode method_4_code 54 = .ok (.ireturn, 1) := by decide +kernel
theorem d4_55 : decode method_4_code 55 = .ok (.lload_n 2, 1) := by decide +kernel
theorem d4_56 : decode method_4_code 56 = .ok (.lload 4, 2) := by decide +kernel
theorem d4_58 : decode method_4_code 58 = .ok (.lrem, 1) := by decide +kernel
theorem d4_59 : decode method_4_code 59 = .ok (.lstore 14, 2) := by decide +kernel
theorem d4_61 : decode method_4_code 61 = .ok (.lload 6, 2) := by decide +kernel
theorem d4_63 : decode method_4_code 63 = .ok (.lload 8, 2) := by decide +kernel
theorem d4_65 : decode method_4_code 65 = .ok (.lrem, 1) := by decide +kernel
theorem d4_66 : decode method_4_code 66 = .ok (.lstore 16, 2) := by decide +kernel
theorem d4_68 : decode method_4_code 68 = .ok (.lload 14, 2) := by decide +kernel
theorem d4_70 : decode method_4_code 70 = .ok (.lload 8, 2) := by decide +kernel
theorem d4_72 : decode method_4_code 72 = .ok (.lmul, 1) := by decide +kernel
theorem d4_73 : decode method_4_code 73 = .ok (.lstore 18, 2) := by decide +kernel
theorem d4_75 : decode method_4_code 75 = .ok (.lload 16, 2) := by decide +kernel
theorem d4_77 : decode method_4_code 77 = .ok (.lload 4, 2) := by decide +kernel
theorem d4_79 : decode method_4_code 79 = .ok (.lmul, 1) := by decide +kernel
theorem d4_80 : decode method_4_code 80 = .ok (.lstore 20, 2) := by decide +kernel
theorem d4_82 : decode method_4_code 82 = .ok (.lload 18, 2) := by decide +kernel
theorem d4_84 : decode method_4_code 84 = .ok (.lload 20, 2) := by decide +kernel
theorem d4_86 : decode method_4_code 86 = .ok (.lcmp, 1) := by decide +kernel
theorem d4_87 : decode method_4_code 87 = .ok (.ifCond .ge 5, 3) := by decide +kernel
theorem d4_90 : decode method_4_code 90 = .ok (.iconst (-1), 1) := by decide +kernel
theorem d4_91 : decode method_4_code 91 = .ok (.ireturn, 1) := by decide +kernel
theorem d4_92 : decode method_4_code 92 = .ok (.lload 18, 2) := by decide +kernel
theorem d4_94 : decode method_4_code 94 = .ok (.lload 20, 2) := by decide +kernel
theorem d4_96 : decode method_4_code 96 = .ok (.lcmp, 1) := by decide +kernel
theorem d4_97 : decode method_4_code 97 = .ok (.ifCond .le 5, 3) := by decide +kernel
theorem d4_100 : decode method_4_code 100 = .ok (.iconst 1, 1) := by decide +kernel
theorem d4_101 : decode method_4_code 101 = .ok (.ireturn, 1) := by decide +kernel
theorem d4_102 : decode method_4_code 102 = .ok (.iconst 0, 1) := by decide +kernel
theorem d4_103 : decode method_4_code 103 = .ok (.ireturn, 1) := by decide +kernel
theorem pn_4 : plainName "com/example/instance_picker/instancepicker/LoadOrderPinLaw" = true := by first | (simp [plainName, overriddenIn]; done) | decide +kernel
theorem pd_4 : parseMethodDescriptor "(ZZJJJJ)I" = some ⟨[.boolean, .boolean, .long, .long, .long, .long], (some .int)⟩ := by decide +kernel
theorem ef_4 (m : MethodId) (x0 : Int32) (x1 : Int32) (x2 : Int64) (x3 : Int64) (x4 : Int64) (x5 : Int64) : entryFrame m #[(.int x0), (.int x1), (.long x2), (.long x3), (.long x4), (.long x5)] 22 = mkF m 0 #[.val (.int x0), .val (.int x1), .val (.long x2), .second, .val (.long x3), .second, .val (.long x4), .second, .val (.long x5), .second, .unset, .unset, .unset, .unset, .unset, .unset, .unset, .unset, .unset, .unset, .unset, .unset] [] := by first | (simp [entryFrame, mkF, argsToLocals, Value.category]; done) | rfl
def own_f4 (x0 : Int32) (x1 : Int32) (x2 : Int64) (x3 : Int64) (x4 : Int64) (x5 : Int64) : Int32 := (if x0 = (0 : Int32) then (if x1 = (0 : Int32) then (if (x2 / x3) < (x4 / x5) then (-1 : Int32) else (if (x4 / x5) < (x2 / x3) then (1 : Int32) else (if ((x2 % x3) * x5) < ((x4 % x5) * x3) then (-1 : Int32) else (if ((x4 % x5) * x3) < ((x2 % x3) * x5) then (1 : Int32) else (0 : Int32))))) else (-1 : Int32)) else (if x1 = (0 : Int32) then (1 : Int32) else (0 : Int32)))
def own_F4 (Z : State) (x0 : Int32) (x1 : Int32) (x2 : Int64) (x3 : Int64) (x4 : Int64) (x5 : Int64)  (h0 : Heap) (v : Option Value) (h : Heap) (L : List Loc) : Prop := v = some (.int (own_f4 x0 x1 x2 x3 x4 x5)) ∧ L = [] ∧ h = h0
set_option maxRecDepth 65536 in
set_option maxHeartbeats 40000000 in
theorem own_m4 (l : Launch) (Z : State) (a0 : Array Value) (hw : ∀ d ∈ tables_1, d.before a0 Z = true) (ws : List Jvm.Cond) (x0 : Int32) (x1 : Int32) (x2 : Int64) (x3 : Int64) (x4 : Int64) (x5 : Int64)  (h0 : Heap)  (hd : x0 = (0 : Int32) → ¬ x3 = (0 : Int64)) (hod : x1 = (0 : Int32) → ¬ x5 = (0 : Int64)) :
    MetFree l (⟨"com/example/instance_picker/instancepicker/LoadOrderPinLaw", "expected", "(ZZJJJJ)I"⟩ : MethodName) (head1 (Jvm.Cond.code (⟨"com/example/instance_picker/instancepicker/LoadOrderPinLaw", "expected", "(ZZJJJJ)I"⟩ : MethodName) method_4_code 22 (some .int) :: ws) ({ frames := 0, cells := 0, slots := 0, locals := 0 } : Room)) (fun a U => a = #[(.int x0), (.int x1), (.long x2), (.long x3), (.long x4), (.long x5)] ∧ Z.Warmed39 U.vm ∧ U.heap = h0) (fun _ _ _ _ _ => True) (fun _ U o U' => ∃ v L, o = .returned v ∧ own_F4 Z x0 x1 x2 x3 x4 x5 h0 v U'.heap L ∧ FrameEnd U o U' L ({ frames := 0, cells := 0, slots := 0, locals := 0 } : Room).cells ({ frames := 0, cells := 0, slots := 0, locals := 0 } : Room).slots) := by
  refine MetFree.of_bodySF (plainFor_of_name pn_4) hisR ?_
  intro p e s m args below meth c s₁ Bd hml0 hP hK
  obtain ⟨rfl, hZ, hh⟩ := hP
  have hx := Bd.exec
  have hby := Bd.bytes
  have hml : c.maxLocals = 22 := hml0
  have hown : s.vm.findClass "com/example/instance_picker/instancepicker/LoadOrderPinLaw" = some m.cls := findClass_of_methodNamed Bd.named
  have hnm := (name_of_methodNamed Bd.named Bd.method).1
  have X0 : Stand p l e ({ frames := 0, cells := 0, slots := 0, locals := 0 } : Room) s m #[(.int x0), (.int x1), (.long x2), (.long x3), (.long x4), (.long x5)] below meth c s₁ [] 0 0 := Stand.of_body Bd
  have e0 : s₁.heap = h0 := by rw [← hh, Bd.state]; rfl
  have hgo : own_Goes p e below s (own_F4 Z x0 x1 x2 x3 x4 x5 h0) 0 0 (s₁.setTop (mkF m 0 #[.val (.int x0), .val (.int x1), .val (.long x2), .second, .val (.long x3), .second, .val (.long x4), .second, .val (.long x5), .second, .unset, .unset, .unset, .unset, .unset, .unset, .unset, .unset, .unset, .unset, .unset, .unset] [])) := by
    refine own_Goes.step (fun t k => XS.iloadN X0.here hx rfl (hb hby d4_0) rfl k) ?_
    show own_Goes p e below s (own_F4 Z x0 x1 x2 x3 x4 x5 h0) 0 0 (s₁.setTop (mkF m 1 #[.val (.int x0), .val (.int x1), .val (.long x2), .second, .val (.long x3), .second, .val (.long x4), .second, .val (.long x5), .second, .unset, .unset, .unset, .unset, .unset, .unset, .unset, .unset, .unset, .unset, .unset, .unset] [(.int x0)]))
    by_cases hc1 : x0 = (0 : Int32)
    · refine own_Goes.step (fun t k => XS.ifYes X0.here hx rfl (pc0 := 1) (pc' := 10) rfl (hb hby d4_1) rfl (XT.i0_eq_t hc1) (by decide) (by decide) k) ?_
      show own_Goes p e below s (own_F4 Z x0 x1 x2 x3 x4 x5 h0) 0 0 (s₁.setTop (mkF m 10 #[.val (.int x0), .val (.int x1), .val (.long x2), .second, .val (.long x3), .second, .val (.long x4), .second, .val (.long x5), .second, .unset, .unset, .unset, .unset, .unset, .unset, .unset, .unset, .unset, .unset, .unset, .unset] []))
      refine own_Goes.step (fun t k => XS.iloadN X0.here hx rfl (hb hby d4_10) rfl k) ?_
      show own_Goes p e below s (own_F4 Z x0 x1 x2 x3 x4 x5 h0) 0 0 (s₁.setTop (mkF m 11 #[.val (.int x0), .val (.int x1), .val (.long x2), .second, .val (.long x3), .second, .val (.long x4), .second, .val (.long x5), .second, .unset, .unset, .unset, .unset, .unset, .unset, .unset, .unset, .unset, .unset, .unset, .unset] [(.int x0)]))
      refine own_Goes.step (fun t k => XS.ifYes X0.here hx rfl (pc0 := 11) (pc' := 16) rfl (hb hby d4_11) rfl (XT.i0_eq_t (hc1)) (by decide) (by decide) k) ?_
      show own_Goes p e below s (own_F4 Z x0 x1 x2 x3 x4 x5 h0) 0 0 (s₁.setTop (mkF m 16 #[.val (.int x0), .val (.int x1), .val (.long x2), .second, .val (.long x3), .second, .val (.long x4), .second, .val (.long x5), .second, .unset, .unset, .unset, .unset, .unset, .unset, .unset, .unset, .unset, .unset, .unset, .unset] []))
      refine own_Goes.step (fun t k => XS.iloadN X0.here hx rfl (hb hby d4_16) rfl k) ?_
      show own_Goes p e below s (own_F4 Z x0 x1 x2 x3 x4 x5 h0) 0 0 (s₁.setTop (mkF m 17 #[.val (.int x0), .val (.int x1), .val (.long x2), .second, .val (.long x3), .second, .val (.long x4), .second, .val (.long x5), .second, .unset, .unset, .unset, .unset, .unset, .unset, .unset, .unset, .unset, .unset, .unset, .unset] [(.int x1)]))
      by_cases hc2 : x1 = (0 : Int32)
      · refine own_Goes.step (fun t k => XS.ifYes X0.here hx rfl (pc0 := 17) (pc' := 22) rfl (hb hby d4_17) rfl (XT.i0_eq_t hc2) (by decide) (by decide) k) ?_
        show own_Goes p e below s (own_F4 Z x0 x1 x2 x3 x4 x5 h0) 0 0 (s₁.setTop (mkF m 22 #[.val (.int x0), .val (.int x1), .val (.long x2), .second, .val (.long x3), .second, .val (.long x4), .second, .val (.long x5), .second, .unset, .unset, .unset, .unset, .unset, .unset, .unset, .unset, .unset, .unset, .unset, .unset] []))
        refine own_Goes.step (fun t k => XT.lloadN X0.here hx rfl (hb hby d4_22) rfl k) ?_
        show own_Goes p e below s (own_F4 Z x0 x1 x2 x3 x4 x5 h0) 0 0 (s₁.setTop (mkF m 23 #[.val (.int x0), .val (.int x1), .val (.long x2), .second, .val (.long x3), .second, .val (.long x4), .second, .val (.long x5), .second, .unset, .unset, .unset, .unset, .unset, .unset, .unset, .unset, .unset, .unset, .unset, .unset] [(.long x2)]))
        refine own_Goes.step (fun t k => XT.lload X0.here hx rfl (hb hby d4_23) rfl k) ?_
        show own_Goes p e below s (own_F4 Z x0 x1 x2 x3 x4 x5 h0) 0 0 (s₁.setTop (mkF m 25 #[.val (.int x0), .val (.int x1), .val (.long x2), .second, .val (.long x3), .second, .val (.long x4), .second, .val (.long x5), .second, .unset, .unset, .unset, .unset, .unset, .unset, .unset, .unset, .unset, .unset, .unset, .unset] [(.long x3), (.long x2)]))
        refine own_Goes.step (fun t k => XT.ldiv X0.here hx rfl (hb hby d4_25) rfl (by first | exact hd (by assumption) | exact hod (by assumption)) k) ?_
        show own_Goes p e below s (own_F4 Z x0 x1 x2 x3 x4 x5 h0) 0 0 (s₁.setTop (mkF m 26 #[.val (.int x0), .val (.int x1), .val (.long x2), .second, .val (.long x3), .second, .val (.long x4), .second, .val (.long x5), .second, .unset, .unset, .unset, .unset, .unset, .unset, .unset, .unset, .unset, .unset, .unset, .unset] [(.long (x2 / x3))]))
        refine own_Goes.step (fun t k => XT.lstore X0.here hx rfl (hb hby d4_26) rfl (l' := #[.val (.int x0), .val (.int x1), .val (.long x2), .second, .val (.long x3), .second, .val (.long x4), .second, .val (.long x5), .second, .val (.long (x2 / x3)), .second, .unset, .unset, .unset, .unset, .unset, .unset, .unset, .unset, .unset, .unset]) rfl k) ?_
        show own_Goes p e below s (own_F4 Z x0 x1 x2 x3 x4 x5 h0) 0 0 (s₁.setTop (mkF m 28 #[.val (.int x0), .val (.int x1), .val (.long x2), .second, .val (.long x3), .second, .val (.long x4), .second, .val (.long x5), .second, .val (.long (x2 / x3)), .second, .unset, .unset, .unset, .unset, .unset, .unset, .unset, .unset, .unset, .unset] []))
        refine own_Goes.step (fun t k => XT.lload X0.here hx rfl (hb hby d4_28) rfl k) ?_
        show own_Goes p e below s (own_F4 Z x0 x1 x2 x3 x4 x5 h0) 0 0 (s₁.setTop (mkF m 30 #[.val (.int x0), .val (.int x1), .val (.long x2), .second, .val (.long x3), .second, .val (.long x4), .second, .val (.long x5), .second, .val (.long (x2 / x3)), .second, .unset, .unset, .unset, .unset, .unset, .unset, .unset, .unset, .unset, .unset] [(.long x4)]))
        refine own_Goes.step (fun t k => XT.lload X0.here hx rfl (hb hby d4_30) rfl k) ?_
        show own_Goes p e below s (own_F4 Z x0 x1 x2 x3 x4 x5 h0) 0 0 (s₁.setTop (mkF m 32 #[.val (.int x0), .val (.int x1), .val (.long x2), .second, .val (.long x3), .second, .val (.long x4), .second, .val (.long x5), .second, .val (.long (x2 / x3)), .second, .unset, .unset, .unset, .unset, .unset, .unset, .unset, .unset, .unset, .unset] [(.long x5), (.long x4)]))
        refine own_Goes.step (fun t k => XT.ldiv X0.here hx rfl (hb hby d4_32) rfl (by first | exact hd (by assumption) | exact hod (by assumption)) k) ?_
        show own_Goes p e below s (own_F4 Z x0 x1 x2 x3 x4 x5 h0) 0 0 (s₁.setTop (mkF m 33 #[.val (.int x0), .val (.int x1), .val (.long x2), .second, .val (.long x3), .second, .val (.long x4), .second, .val (.long x5), .second, .val (.long (x2 / x3)), .second, .unset, .unset, .unset, .unset, .unset, .unset, .unset, .unset, .unset, .unset] [(.long (x4 / x5))]))
        refine own_Goes.step (fun t k => XT.lstore X0.here hx rfl (hb hby d4_33) rfl (l' := #[.val (.int x0), .val (.int x1), .val (.long x2), .second, .val (.long x3), .second, .val (.long x4), .second, .val (.long x5), .second, .val (.long (x2 / x3)), .second, .val (.long (x4 / x5)), .second, .unset, .unset, .unset, .unset, .unset, .unset, .unset, .unset]) rfl k) ?_
        show own_Goes p e below s (own_F4 Z x0 x1 x2 x3 x4 x5 h0) 0 0 (s₁.setTop (mkF m 35 #[.val (.int x0), .val (.int x1), .val (.long x2), .second, .val (.long x3), .second, .val (.long x4), .second, .val (.long x5), .second, .val (.long (x2 / x3)), .second, .val (.long (x4 / x5)), .second, .unset, .unset, .unset, .unset, .unset, .unset, .unset, .unset] []))
        refine own_Goes.step (fun t k => XT.lload X0.here hx rfl (hb hby d4_35) rfl k) ?_
        show own_Goes p e below s (own_F4 Z x0 x1 x2 x3 x4 x5 h0) 0 0 (s₁.setTop (mkF m 37 #[.val (.int x0), .val (.int x1), .val (.long x2), .second, .val (.long x3), .second, .val (.long x4), .second, .val (.long x5), .second, .val (.long (x2 / x3)), .second, .val (.long (x4 / x5)), .second, .unset, .unset, .unset, .unset, .unset, .unset, .unset, .unset] [(.long (x2 / x3))]))
        refine own_Goes.step (fun t k => XT.lload X0.here hx rfl (hb hby d4_37) rfl k) ?_
        show own_Goes p e below s (own_F4 Z x0 x1 x2 x3 x4 x5 h0) 0 0 (s₁.setTop (mkF m 39 #[.val (.int x0), .val (.int x1), .val (.long x2), .second, .val (.long x3), .second, .val (.long x4), .second, .val (.long x5), .second, .val (.long (x2 / x3)), .second, .val (.long (x4 / x5)), .second, .unset, .unset, .unset, .unset, .unset, .unset, .unset, .unset] [(.long (x4 / x5)), (.long (x2 / x3))]))
        refine own_Goes.step (fun t k => XT.lcmp X0.here hx rfl (hb hby d4_39) rfl k) ?_
        show own_Goes p e below s (own_F4 Z x0 x1 x2 x3 x4 x5 h0) 0 0 (s₁.setTop (mkF m 40 #[.val (.int x0), .val (.int x1), .val (.long x2), .second, .val (.long x3), .second, .val (.long x4), .second, .val (.long x5), .second, .val (.long (x2 / x3)), .second, .val (.long (x4 / x5)), .second, .unset, .unset, .unset, .unset, .unset, .unset, .unset, .unset] [(.int (XT.cmpL (x2 / x3) (x4 / x5)))]))
        by_cases hc3 : (x2 / x3) < (x4 / x5)
        · refine own_Goes.step (fun t k => XS.ifNo X0.here hx rfl (hb hby d4_40) rfl (XT.ll_ge_f hc3) k) ?_
          show own_Goes p e below s (own_F4 Z x0 x1 x2 x3 x4 x5 h0) 0 0 (s₁.setTop (mkF m 43 #[.val (.int x0), .val (.int x1), .val (.long x2), .second, .val (.long x3), .second, .val (.long x4), .second, .val (.long x5), .second, .val (.long (x2 / x3)), .second, .val (.long (x4 / x5)), .second, .unset, .unset, .unset, .unset, .unset, .unset, .unset, .unset] []))
          refine own_Goes.step (fun t k => XT.iconstV X0.here hx rfl (-1 : Int32) (hb hby d4_43) (by decide) k) ?_
          show own_Goes p e below s (own_F4 Z x0 x1 x2 x3 x4 x5 h0) 0 0 (s₁.setTop (mkF m 44 #[.val (.int x0), .val (.int x1), .val (.long x2), .second, .val (.long x3), .second, .val (.long x4), .second, .val (.long x5), .second, .val (.long (x2 / x3)), .second, .val (.long (x4 / x5)), .second, .unset, .unset, .unset, .unset, .unset, .unset, .unset, .unset] [(.int (-1 : Int32))]))
          exact own_endI X0 hx Bd.notSynchronized Bd.returns (hb hby d4_44) ⟨(congrArg (fun z => some (Value.int z)) (show (-1 : Int32) = own_f4 x0 x1 x2 x3 x4 x5 from by simp only [own_f4, if_pos hc1, if_pos hc2, if_pos hc3])), rfl, e0⟩ (by decide) (by decide)
        · refine own_Goes.step (fun t k => XS.ifYes X0.here hx rfl (pc0 := 40) (pc' := 45) rfl (hb hby d4_40) rfl (XT.ll_ge_t hc3) (by decide) (by decide) k) ?_
          show own_Goes p e below s (own_F4 Z x0 x1 x2 x3 x4 x5 h0) 0 0 (s₁.setTop (mkF m 45 #[.val (.int x0), .val (.int x1), .val (.long x2), .second, .val (.long x3), .second, .val (.long x4), .second, .val (.long x5), .second, .val (.long (x2 / x3)), .second, .val (.long (x4 / x5)), .second, .unset, .unset, .unset, .unset, .unset, .unset, .unset, .unset] []))
          refine own_Goes.step (fun t k => XT.lload X0.here hx rfl (hb hby d4_45) rfl k) ?_
          show own_Goes p e below s (own_F4 Z x0 x1 x2 x3 x4 x5 h0) 0 0 (s₁.setTop (mkF m 47 #[.val (.int x0), .val (.int x1), .val (.long x2), .second, .val (.long x3), .second, .val (.long x4), .second, .val (.long x5), .second, .val (.long (x2 / x3)), .second, .val (.long (x4 / x5)), .second, .unset, .unset, .unset, .unset, .unset, .unset, .unset, .unset] [(.long (x2 / x3))]))
          refine own_Goes.step (fun t k => XT.lload X0.here hx rfl (hb hby d4_47) rfl k) ?_
          show own_Goes p e below s (own_F4 Z x0 x1 x2 x3 x4 x5 h0) 0 0 (s₁.setTop (mkF m 49 #[.val (.int x0), .val (.int x1), .val (.long x2), .second, .val (.long x3), .second, .val (.long x4), .second, .val (.long x5), .second, .val (.long (x2 / x3)), .second, .val (.long (x4 / x5)), .second, .unset, .unset, .unset, .unset, .unset, .unset, .unset, .unset] [(.long (x4 / x5)), (.long (x2 / x3))]))
          refine own_Goes.step (fun t k => XT.lcmp X0.here hx rfl (hb hby d4_49) rfl k) ?_
          show own_Goes p e below s (own_F4 Z x0 x1 x2 x3 x4 x5 h0) 0 0 (s₁.setTop (mkF m 50 #[.val (.int x0), .val (.int x1), .val (.long x2), .second, .val (.long x3), .second, .val (.long x4), .second, .val (.long x5), .second, .val (.long (x2 / x3)), .second, .val (.long (x4 / x5)), .second, .unset, .unset, .unset, .unset, .unset, .unset, .unset, .unset] [(.int (XT.cmpL (x2 / x3) (x4 / x5)))]))
          by_cases hc4 : (x4 / x5) < (x2 / x3)
          · refine own_Goes.step (fun t k => XS.ifNo X0.here hx rfl (hb hby d4_50) rfl (XT.ll_le_f hc4) k) ?_
            show own_Goes p e below s (own_F4 Z x0 x1 x2 x3 x4 x5 h0) 0 0 (s₁.setTop (mkF m 53 #[.val (.int x0), .val (.int x1), .val (.long x2), .second, .val (.long x3), .second, .val (.long x4), .second, .val (.long x5), .second, .val (.long (x2 / x3)), .second, .val (.long (x4 / x5)), .second, .unset, .unset, .unset, .unset, .unset, .unset, .unset, .unset] []))
            refine own_Goes.step (fun t k => XT.iconstV X0.here hx rfl (1 : Int32) (hb hby d4_53) (by decide) k) ?_
            show own_Goes p e below s (own_F4 Z x0 x1 x2 x3 x4 x5 h0) 0 0 (s₁.setTop (mkF m 54 #[.val (.int x0), .val (.int x1), .val (.long x2), .second, .val (.long x3), .second, .val (.long x4), .second, .val (.long x5), .second, .val (.long (x2 / x3)), .second, .val (.long (x4 / x5)), .second, .unset, .unset, .unset, .unset, .unset, .unset, .unset, .unset] [(.int (1 : Int32))]))
            exact own_endI X0 hx Bd.notSynchronized Bd.returns (hb hby d4_54) ⟨(congrArg (fun z => some (Value.int z)) (show (1 : Int32) = own_f4 x0 x1 x2 x3 x4 x5 from by simp only [own_f4, if_pos hc1, if_pos hc2, if_neg hc3, if_pos hc4])), rfl, e0⟩ (by decide) (by decide)
          · refine own_Goes.step (fun t k => XS.ifYes X0.here hx rfl (pc0 := 50) (pc' := 55) rfl (hb hby d4_50) rfl (XT.ll_le_t hc4) (by decide) (by decide) k) ?_
            show own_Goes p e below s (own_F4 Z x0 x1 x2 x3 x4 x5 h0) 0 0 (s₁.setTop (mkF m 55 #[.val (.int x0), .val (.int x1), .val (.long x2), .second, .val (.long x3), .second, .val (.long x4), .second, .val (.long x5), .second, .val (.long (x2 / x3)), .second, .val (.long (x4 / x5)), .second, .unset, .unset, .unset, .unset, .unset, .unset, .unset, .unset] []))
            refine own_Goes.step (fun t k => XT.lloadN X0.here hx rfl (hb hby d4_55) rfl k) ?_
            show own_Goes p e below s (own_F4 Z x0 x1 x2 x3 x4 x5 h0) 0 0 (s₁.setTop (mkF m 56 #[.val (.int x0), .val (.int x1), .val (.long x2), .second, .val (.long x3), .second, .val (.long x4), .second, .val (.long x5), .second, .val (.long (x2 / x3)), .second, .val (.long (x4 / x5)), .second, .unset, .unset, .unset, .unset, .unset, .unset, .unset, .unset] [(.long x2)]))
            refine own_Goes.step (fun t k => XT.lload X0.here hx rfl (hb hby d4_56) rfl k) ?_
            show own_Goes p e below s (own_F4 Z x0 x1 x2 x3 x4 x5 h0) 0 0 (s₁.setTop (mkF m 58 #[.val (.int x0), .val (.int x1), .val (.long x2), .second, .val (.long x3), .second, .val (.long x4), .second, .val (.long x5), .second, .val (.long (x2 / x3)), .second, .val (.long (x4 / x5)), .second, .unset, .unset, .unset, .unset, .unset, .unset, .unset, .unset] [(.long x3), (.long x2)]))
            refine own_Goes.step (fun t k => own_lremM X0 hx rfl (hb hby d4_58) rfl (by first | exact hd (by assumption) | exact hod (by assumption)) k) ?_
            show own_Goes p e below s (own_F4 Z x0 x1 x2 x3 x4 x5 h0) 0 0 (s₁.setTop (mkF m 59 #[.val (.int x0), .val (.int x1), .val (.long x2), .second, .val (.long x3), .second, .val (.long x4), .second, .val (.long x5), .second, .val (.long (x2 / x3)), .second, .val (.long (x4 / x5)), .second, .unset, .unset, .unset, .unset, .unset, .unset, .unset, .unset] [(.long (x2 % x3))]))
            refine own_Goes.step (fun t k => XT.lstore X0.here hx rfl (hb hby d4_59) rfl (l' := #[.val (.int x0), .val (.int x1), .val (.long x2), .second, .val (.long x3), .second, .val (.long x4), .second, .val (.long x5), .second, .val (.long (x2 / x3)), .second, .val (.long (x4 / x5)), .second, .val (.long (x2 % x3)), .second, .unset, .unset, .unset, .unset, .unset, .unset]) rfl k) ?_
            show own_Goes p e below s (own_F4 Z x0 x1 x2 x3 x4 x5 h0) 0 0 (s₁.setTop (mkF m 61 #[.val (.int x0), .val (.int x1), .val (.long x2), .second, .val (.long x3), .second, .val (.long x4), .second, .val (.long x5), .second, .val (.long (x2 / x3)), .second, .val (.long (x4 / x5)), .second, .val (.long (x2 % x3)), .second, .unset, .unset, .unset, .unset, .unset, .unset] []))
            refine own_Goes.step (fun t k => XT.lload X0.here hx rfl (hb hby d4_61) rfl k) ?_
            show own_Goes p e below s (own_F4 Z x0 x1 x2 x3 x4 x5 h0) 0 0 (s₁.setTop (mkF m 63 #[.val (.int x0), .val (.int x1), .val (.long x2), .second, .val (.long x3), .second, .val (.long x4), .second, .val (.long x5), .second, .val (.long (x2 / x3)), .second, .val (.long (x4 / x5)), .second, .val (.long (x2 % x3)), .second, .unset, .unset, .unset, .unset, .unset, .unset] [(.long x4)]))
            refine own_Goes.step (fun t k => XT.lload X0.here hx rfl (hb hby d4_63) rfl k) ?_
            show own_Goes p e below s (own_F4 Z x0 x1 x2 x3 x4 x5 h0) 0 0 (s₁.setTop (mkF m 65 #[.val (.int x0), .val (.int x1), .val (.long x2), .second, .val (.long x3), .second, .val (.long x4), .second, .val (.long x5), .second, .val (.long (x2 / x3)), .second, .val (.long (x4 / x5)), .second, .val (.long (x2 % x3)), .second, .unset, .unset, .unset, .unset, .unset, .unset] [(.long x5), (.long x4)]))
            refine own_Goes.step (fun t k => own_lremM X0 hx rfl (hb hby d4_65) rfl (by first | exact hd (by assumption) | exact hod (by assumption)) k) ?_
            show own_Goes p e below s (own_F4 Z x0 x1 x2 x3 x4 x5 h0) 0 0 (s₁.setTop (mkF m 66 #[.val (.int x0), .val (.int x1), .val (.long x2), .second, .val (.long x3), .second, .val (.long x4), .second, .val (.long x5), .second, .val (.long (x2 / x3)), .second, .val (.long (x4 / x5)), .second, .val (.long (x2 % x3)), .second, .unset, .unset, .unset, .unset, .unset, .unset] [(.long (x4 % x5))]))
            refine own_Goes.step (fun t k => XT.lstore X0.here hx rfl (hb hby d4_66) rfl (l' := #[.val (.int x0), .val (.int x1), .val (.long x2), .second, .val (.long x3), .second, .val (.long x4), .second, .val (.long x5), .second, .val (.long (x2 / x3)), .second, .val (.long (x4 / x5)), .second, .val (.long (x2 % x3)), .second, .val (.long (x4 % x5)), .second, .unset, .unset, .unset, .unset]) rfl k) ?_
            show own_Goes p e below s (own_F4 Z x0 x1 x2 x3 x4 x5 h0) 0 0 (s₁.setTop (mkF m 68 #[.val (.int x0), .val (.int x1), .val (.long x2), .second, .val (.long x3), .second, .val (.long x4), .second, .val (.long x5), .second, .val (.long (x2 / x3)), .second, .val (.long (x4 / x5)), .second, .val (.long (x2 % x3)), .second, .val (.long (x4 % x5)), .second, .unset, .unset, .unset, .unset] []))
            refine own_Goes.step (fun t k => XT.lload X0.here hx rfl (hb hby d4_68) rfl k) ?_
            show own_Goes p e below s (own_F4 Z x0 x1 x2 x3 x4 x5 h0) 0 0 (s₁.setTop (mkF m 70 #[.val (.int x0), .val (.int x1), .val (.long x2), .second, .val (.long x3), .second, .val (.long x4), .second, .val (.long x5), .second, .val (.long (x2 / x3)), .second, .val (.long (x4 / x5)), .second, .val (.long (x2 % x3)), .second, .val (.long (x4 % x5)), .second, .unset, .unset, .unset, .unset] [(.long (x2 % x3))]))
            refine own_Goes.step (fun t k => XT.lload X0.here hx rfl (hb hby d4_70) rfl k) ?_
            show own_Goes p e below s (own_F4 Z x0 x1 x2 x3 x4 x5 h0) 0 0 (s₁.setTop (mkF m 72 #[.val (.int x0), .val (.int x1), .val (.long x2), .second, .val (.long x3), .second, .val (.long x4), .second, .val (.long x5), .second, .val (.long (x2 / x3)), .second, .val (.long (x4 / x5)), .second, .val (.long (x2 % x3)), .second, .val (.long (x4 % x5)), .second, .unset, .unset, .unset, .unset] [(.long x5), (.long (x2 % x3))]))
            refine own_Goes.step (fun t k => XT.lmul X0.here hx rfl (hb hby d4_72) rfl k) ?_
            show own_Goes p e below s (own_F4 Z x0 x1 x2 x3 x4 x5 h0) 0 0 (s₁.setTop (mkF m 73 #[.val (.int x0), .val (.int x1), .val (.long x2), .second, .val (.long x3), .second, .val (.long x4), .second, .val (.long x5), .second, .val (.long (x2 / x3)), .second, .val (.long (x4 / x5)), .second, .val (.long (x2 % x3)), .second, .val (.long (x4 % x5)), .second, .unset, .unset, .unset, .unset] [(.long ((x2 % x3) * x5))]))
            refine own_Goes.step (fun t k => XT.lstore X0.here hx rfl (hb hby d4_73) rfl (l' := #[.val (.int x0), .val (.int x1), .val (.long x2), .second, .val (.long x3), .second, .val (.long x4), .second, .val (.long x5), .second, .val (.long (x2 / x3)), .second, .val (.long (x4 / x5)), .second, .val (.long (x2 % x3)), .second, .val (.long (x4 % x5)), .second, .val (.long ((x2 % x3) * x5)), .second, .unset, .unset]) rfl k) ?_
            show own_Goes p e below s (own_F4 Z x0 x1 x2 x3 x4 x5 h0) 0 0 (s₁.setTop (mkF m 75 #[.val (.int x0), .val (.int x1), .val (.long x2), .second, .val (.long x3), .second, .val (.long x4), .second, .val (.long x5), .second, .val (.long (x2 / x3)), .second, .val (.long (x4 / x5)), .second, .val (.long (x2 % x3)), .second, .val (.long (x4 % x5)), .second, .val (.long ((x2 % x3) * x5)), .second, .unset, .unset] []))
            refine own_Goes.step (fun t k => XT.lload X0.here hx rfl (hb hby d4_75) rfl k) ?_
            show own_Goes p e below s (own_F4 Z x0 x1 x2 x3 x4 x5 h0) 0 0 (s₁.setTop (mkF m 77 #[.val (.int x0), .val (.int x1), .val (.long x2), .second, .val (.long x3), .second, .val (.long x4), .second, .val (.long x5), .second, .val (.long (x2 / x3)), .second, .val (.long (x4 / x5)), .second, .val (.long (x2 % x3)), .second, .val (.long (x4 % x5)), .second, .val (.long ((x2 % x3) * x5)), .second, .unset, .unset] [(.long (x4 % x5))]))
            refine own_Goes.step (fun t k => XT.lload X0.here hx rfl (hb hby d4_77) rfl k) ?_
            show own_Goes p e below s (own_F4 Z x0 x1 x2 x3 x4 x5 h0) 0 0 (s₁.setTop (mkF m 79 #[.val (.int x0), .val (.int x1), .val (.long x2), .second, .val (.long x3), .second, .val (.long x4), .second, .val (.long x5), .second, .val (.long (x2 / x3)), .second, .val (.long (x4 / x5)), .second, .val (.long (x2 % x3)), .second, .val (.long (x4 % x5)), .second, .val (.long ((x2 % x3) * x5)), .second, .unset, .unset] [(.long x3), (.long (x4 % x5))]))
            refine own_Goes.step (fun t k => XT.lmul X0.here hx rfl (hb hby d4_79) rfl k) ?_
            show own_Goes p e below s (own_F4 Z x0 x1 x2 x3 x4 x5 h0) 0 0 (s₁.setTop (mkF m 80 #[.val (.int x0), .val (.int x1), .val (.long x2), .second, .val (.long x3), .second, .val (.long x4), .second, .val (.long x5), .second, .val (.long (x2 / x3)), .second, .val (.long (x4 / x5)), .second, .val (.long (x2 % x3)), .second, .val (.long (x4 % x5)), .second, .val (.long ((x2 % x3) * x5)), .second, .unset, .unset] [(.long ((x4 % x5) * x3))]))
            refine own_Goes.step (fun t k => XT.lstore X0.here hx rfl (hb hby d4_80) rfl (l' := #[.val (.int x0), .val (.int x1), .val (.long x2), .second, .val (.long x3), .second, .val (.long x4), .second, .val (.long x5), .second, .val (.long (x2 / x3)), .second, .val (.long (x4 / x5)), .second, .val (.long (x2 % x3)), .second, .val (.long (x4 % x5)), .second, .val (.long ((x2 % x3) * x5)), .second, .val (.long ((x4 % x5) * x3)), .second]) rfl k) ?_
            show own_Goes p e below s (own_F4 Z x0 x1 x2 x3 x4 x5 h0) 0 0 (s₁.setTop (mkF m 82 #[.val (.int x0), .val (.int x1), .val (.long x2), .second, .val (.long x3), .second, .val (.long x4), .second, .val (.long x5), .second, .val (.long (x2 / x3)), .second, .val (.long (x4 / x5)), .second, .val (.long (x2 % x3)), .second, .val (.long (x4 % x5)), .second, .val (.long ((x2 % x3) * x5)), .second, .val (.long ((x4 % x5) * x3)), .second] []))
            refine own_Goes.step (fun t k => XT.lload X0.here hx rfl (hb hby d4_82) rfl k) ?_
            show own_Goes p e below s (own_F4 Z x0 x1 x2 x3 x4 x5 h0) 0 0 (s₁.setTop (mkF m 84 #[.val (.int x0), .val (.int x1), .val (.long x2), .second, .val (.long x3), .second, .val (.long x4), .second, .val (.long x5), .second, .val (.long (x2 / x3)), .second, .val (.long (x4 / x5)), .second, .val (.long (x2 % x3)), .second, .val (.long (x4 % x5)), .second, .val (.long ((x2 % x3) * x5)), .second, .val (.long ((x4 % x5) * x3)), .second] [(.long ((x2 % x3) * x5))]))
            refine own_Goes.step (fun t k => XT.lload X0.here hx rfl (hb hby d4_84) rfl k) ?_
            show own_Goes p e below s (own_F4 Z x0 x1 x2 x3 x4 x5 h0) 0 0 (s₁.setTop (mkF m 86 #[.val (.int x0), .val (.int x1), .val (.long x2), .second, .val (.long x3), .second, .val (.long x4), .second, .val (.long x5), .second, .val (.long (x2 / x3)), .second, .val (.long (x4 / x5)), .second, .val (.long (x2 % x3)), .second, .val (.long (x4 % x5)), .second, .val (.long ((x2 % x3) * x5)), .second, .val (.long ((x4 % x5) * x3)), .second] [(.long ((x4 % x5) * x3)), (.long ((x2 % x3) * x5))]))
            refine own_Goes.step (fun t k => XT.lcmp X0.here hx rfl (hb hby d4_86) rfl k) ?_
            show own_Goes p e below s (own_F4 Z x0 x1 x2 x3 x4 x5 h0) 0 0 (s₁.setTop (mkF m 87 #[.val (.int x0), .val (.int x1), .val (.long x2), .second, .val (.long x3), .second, .val (.long x4), .second, .val (.long x5), .second, .val (.long (x2 / x3)), .second, .val (.long (x4 / x5)), .second, .val (.long (x2 % x3)), .second, .val (.long (x4 % x5)), .second, .val (.long ((x2 % x3) * x5)), .second, .val (.long ((x4 % x5) * x3)), .second] [(.int (XT.cmpL ((x2 % x3) * x5) ((x4 % x5) * x3)))]))
            by_cases hc5 : ((x2 % x3) * x5) < ((x4 % x5) * x3)
            · refine own_Goes.step (fun t k => XS.ifNo X0.here hx rfl (hb hby d4_87) rfl (XT.ll_ge_f hc5) k) ?_
              show own_Goes p e below s (own_F4 Z x0 x1 x2 x3 x4 x5 h0) 0 0 (s₁.setTop (mkF m 90 #[.val (.int x0), .val (.int x1), .val (.long x2), .second, .val (.long x3), .second, .val (.long x4), .second, .val (.long x5), .second, .val (.long (x2 / x3)), .second, .val (.long (x4 / x5)), .second, .val (.long (x2 % x3)), .second, .val (.long (x4 % x5)), .second, .val (.long ((x2 % x3) * x5)), .second, .val (.long ((x4 % x5) * x3)), .second] []))
              refine own_Goes.step (fun t k => XT.iconstV X0.here hx rfl (-1 : Int32) (hb hby d4_90) (by decide) k) ?_
              show own_Goes p e below s (own_F4 Z x0 x1 x2 x3 x4 x5 h0) 0 0 (s₁.setTop (mkF m 91 #[.val (.int x0), .val (.int x1), .val (.long x2), .second, .val (.long x3), .second, .val (.long x4), .second, .val (.long x5), .second, .val (.long (x2 / x3)), .second, .val (.long (x4 / x5)), .second, .val (.long (x2 % x3)), .second, .val (.long (x4 % x5)), .second, .val (.long ((x2 % x3) * x5)), .second, .val (.long ((x4 % x5) * x3)), .second] [(.int (-1 : Int32))]))
              exact own_endI X0 hx Bd.notSynchronized Bd.returns (hb hby d4_91) ⟨(congrArg (fun z => some (Value.int z)) (show (-1 : Int32) = own_f4 x0 x1 x2 x3 x4 x5 from by simp only [own_f4, if_pos hc1, if_pos hc2, if_neg hc3, if_neg hc4, if_pos hc5])), rfl, e0⟩ (by decide) (by decide)
            · refine own_Goes.step (fun t k => XS.ifYes X0.here hx rfl (pc0 := 87) (pc' := 92) rfl (hb hby d4_87) rfl (XT.ll_ge_t hc5) (by decide) (by decide) k) ?_
              show own_Goes p e below s (own_F4 Z x0 x1 x2 x3 x4 x5 h0) 0 0 (s₁.setTop (mkF m 92 #[.val (.int x0), .val (.int x1), .val (.long x2), .second, .val (.long x3), .second, .val (.long x4), .second, .val (.long x5), .second, .val (.long (x2 / x3)), .second, .val (.long (x4 / x5)), .second, .val (.long (x2 % x3)), .second, .val (.long (x4 % x5)), .second, .val (.long ((x2 % x3) * x5)), .second, .val (.long ((x4 % x5) * x3)), .second] []))
              refine own_Goes.step (fun t k => XT.lload X0.here hx rfl (hb hby d4_92) rfl k) ?_
              show own_Goes p e below s (own_F4 Z x0 x1 x2 x3 x4 x5 h0) 0 0 (s₁.setTop (mkF m 94 #[.val (.int x0), .val (.int x1), .val (.long x2), .second, .val (.long x3), .second, .val (.long x4), .second, .val (.long x5), .second, .val (.long (x2 / x3)), .second, .val (.long (x4 / x5)), .second, .val (.long (x2 % x3)), .second, .val (.long (x4 % x5)), .second, .val (.long ((x2 % x3) * x5)), .second, .val (.long ((x4 % x5) * x3)), .second] [(.long ((x2 % x3) * x5))]))
              refine own_Goes.step (fun t k => XT.lload X0.here hx rfl (hb hby d4_94) rfl k) ?_
              show own_Goes p e below s (own_F4 Z x0 x1 x2 x3 x4 x5 h0) 0 0 (s₁.setTop (mkF m 96 #[.val (.int x0), .val (.int x1), .val (.long x2), .second, .val (.long x3), .second, .val (.long x4), .second, .val (.long x5), .second, .val (.long (x2 / x3)), .second, .val (.long (x4 / x5)), .second, .val (.long (x2 % x3)), .second, .val (.long (x4 % x5)), .second, .val (.long ((x2 % x3) * x5)), .second, .val (.long ((x4 % x5) * x3)), .second] [(.long ((x4 % x5) * x3)), (.long ((x2 % x3) * x5))]))
              refine own_Goes.step (fun t k => XT.lcmp X0.here hx rfl (hb hby d4_96) rfl k) ?_
              show own_Goes p e below s (own_F4 Z x0 x1 x2 x3 x4 x5 h0) 0 0 (s₁.setTop (mkF m 97 #[.val (.int x0), .val (.int x1), .val (.long x2), .second, .val (.long x3), .second, .val (.long x4), .second, .val (.long x5), .second, .val (.long (x2 / x3)), .second, .val (.long (x4 / x5)), .second, .val (.long (x2 % x3)), .second, .val (.long (x4 % x5)), .second, .val (.long ((x2 % x3) * x5)), .second, .val (.long ((x4 % x5) * x3)), .second] [(.int (XT.cmpL ((x2 % x3) * x5) ((x4 % x5) * x3)))]))
              by_cases hc6 : ((x4 % x5) * x3) < ((x2 % x3) * x5)
              · refine own_Goes.step (fun t k => XS.ifNo X0.here hx rfl (hb hby d4_97) rfl (XT.ll_le_f hc6) k) ?_
                show own_Goes p e below s (own_F4 Z x0 x1 x2 x3 x4 x5 h0) 0 0 (s₁.setTop (mkF m 100 #[.val (.int x0), .val (.int x1), .val (.long x2), .second, .val (.long x3), .second, .val (.long x4), .second, .val (.long x5), .second, .val (.long (x2 / x3)), .second, .val (.long (x4 / x5)), .second, .val (.long (x2 % x3)), .second, .val (.long (x4 % x5)), .second, .val (.long ((x2 % x3) * x5)), .second, .val (.long ((x4 % x5) * x3)), .second] []))
                refine own_Goes.step (fun t k => XT.iconstV X0.here hx rfl (1 : Int32) (hb hby d4_100) (by decide) k) ?_
                show own_Goes p e below s (own_F4 Z x0 x1 x2 x3 x4 x5 h0) 0 0 (s₁.setTop (mkF m 101 #[.val (.int x0), .val (.int x1), .val (.long x2), .second, .val (.long x3), .second, .val (.long x4), .second, .val (.long x5), .second, .val (.long (x2 / x3)), .second, .val (.long (x4 / x5)), .second, .val (.long (x2 % x3)), .second, .val (.long (x4 % x5)), .second, .val (.long ((x2 % x3) * x5)), .second, .val (.long ((x4 % x5) * x3)), .second] [(.int (1 : Int32))]))
                exact own_endI X0 hx Bd.notSynchronized Bd.returns (hb hby d4_101) ⟨(congrArg (fun z => some (Value.int z)) (show (1 : Int32) = own_f4 x0 x1 x2 x3 x4 x5 from by simp only [own_f4, if_pos hc1, if_pos hc2, if_neg hc3, if_neg hc4, if_neg hc5, if_pos hc6])), rfl, e0⟩ (by decide) (by decide)
              · refine own_Goes.step (fun t k => XS.ifYes X0.here hx rfl (pc0 := 97) (pc' := 102) rfl (hb hby d4_97) rfl (XT.ll_le_t hc6) (by decide) (by decide) k) ?_
                show own_Goes p e below s (own_F4 Z x0 x1 x2 x3 x4 x5 h0) 0 0 (s₁.setTop (mkF m 102 #[.val (.int x0), .val (.int x1), .val (.long x2), .second, .val (.long x3), .second, .val (.long x4), .second, .val (.long x5), .second, .val (.long (x2 / x3)), .second, .val (.long (x4 / x5)), .second, .val (.long (x2 % x3)), .second, .val (.long (x4 % x5)), .second, .val (.long ((x2 % x3) * x5)), .second, .val (.long ((x4 % x5) * x3)), .second] []))
                refine own_Goes.step (fun t k => XT.iconstV X0.here hx rfl (0 : Int32) (hb hby d4_102) (by decide) k) ?_
                show own_Goes p e below s (own_F4 Z x0 x1 x2 x3 x4 x5 h0) 0 0 (s₁.setTop (mkF m 103 #[.val (.int x0), .val (.int x1), .val (.long x2), .second, .val (.long x3), .second, .val (.long x4), .second, .val (.long x5), .second, .val (.long (x2 / x3)), .second, .val (.long (x4 / x5)), .second, .val (.long (x2 % x3)), .second, .val (.long (x4 % x5)), .second, .val (.long ((x2 % x3) * x5)), .second, .val (.long ((x4 % x5) * x3)), .second] [(.int (0 : Int32))]))
                exact own_endI X0 hx Bd.notSynchronized Bd.returns (hb hby d4_103) ⟨(congrArg (fun z => some (Value.int z)) (show (0 : Int32) = own_f4 x0 x1 x2 x3 x4 x5 from by simp only [own_f4, if_pos hc1, if_pos hc2, if_neg hc3, if_neg hc4, if_neg hc5, if_neg hc6])), rfl, e0⟩ (by decide) (by decide)
      · refine own_Goes.step (fun t k => XS.ifNo X0.here hx rfl (hb hby d4_17) rfl (XT.i0_eq_f hc2) k) ?_
        show own_Goes p e below s (own_F4 Z x0 x1 x2 x3 x4 x5 h0) 0 0 (s₁.setTop (mkF m 20 #[.val (.int x0), .val (.int x1), .val (.long x2), .second, .val (.long x3), .second, .val (.long x4), .second, .val (.long x5), .second, .unset, .unset, .unset, .unset, .unset, .unset, .unset, .unset, .unset, .unset, .unset, .unset] []))
        refine own_Goes.step (fun t k => XT.iconstV X0.here hx rfl (-1 : Int32) (hb hby d4_20) (by decide) k) ?_
        show own_Goes p e below s (own_F4 Z x0 x1 x2 x3 x4 x5 h0) 0 0 (s₁.setTop (mkF m 21 #[.val (.int x0), .val (.int x1), .val (.long x2), .second, .val (.long x3), .second, .val (.long x4), .second, .val (.long x5), .second, .unset, .unset, .unset, .unset, .unset, .unset, .unset, .unset, .unset, .unset, .unset, .unset] [(.int (-1 : Int32))]))
        exact own_endI X0 hx Bd.notSynchronized Bd.returns (hb hby d4_21) ⟨(congrArg (fun z => some (Value.int z)) (show (-1 : Int32) = own_f4 x0 x1 x2 x3 x4 x5 from by simp only [own_f4, if_pos hc1, if_neg hc2])), rfl, e0⟩ (by decide) (by decide)
    · refine own_Goes.step (fun t k => XS.ifNo X0.here hx rfl (hb hby d4_1) rfl (XT.i0_eq_f hc1) k) ?_
      show own_Goes p e below s (own_F4 Z x0 x1 x2 x3 x4 x5 h0) 0 0 (s₁.setTop (mkF m 4 #[.val (.int x0), .val (.int x1), .val (.long x2), .second, .val (.long x3), .second, .val (.long x4), .second, .val (.long x5), .second, .unset, .unset, .unset, .unset, .unset, .unset, .unset, .unset, .unset, .unset, .unset, .unset] []))
      refine own_Goes.step (fun t k => XS.iloadN X0.here hx rfl (hb hby d4_4) rfl k) ?_
      show own_Goes p e below s (own_F4 Z x0 x1 x2 x3 x4 x5 h0) 0 0 (s₁.setTop (mkF m 5 #[.val (.int x0), .val (.int x1), .val (.long x2), .second, .val (.long x3), .second, .val (.long x4), .second, .val (.long x5), .second, .unset, .unset, .unset, .unset, .unset, .unset, .unset, .unset, .unset, .unset, .unset, .unset] [(.int x1)]))
      by_cases hc7 : x1 = (0 : Int32)
      · refine own_Goes.step (fun t k => XS.ifYes X0.here hx rfl (pc0 := 5) (pc' := 10) rfl (hb hby d4_5) rfl (XT.i0_eq_t hc7) (by decide) (by decide) k) ?_
        show own_Goes p e below s (own_F4 Z x0 x1 x2 x3 x4 x5 h0) 0 0 (s₁.setTop (mkF m 10 #[.val (.int x0), .val (.int x1), .val (.long x2), .second, .val (.long x3), .second, .val (.long x4), .second, .val (.long x5), .second, .unset, .unset, .unset, .unset, .unset, .unset, .unset, .unset, .unset, .unset, .unset, .unset] []))
        refine own_Goes.step (fun t k => XS.iloadN X0.here hx rfl (hb hby d4_10) rfl k) ?_
        show own_Goes p e below s (own_F4 Z x0 x1 x2 x3 x4 x5 h0) 0 0 (s₁.setTop (mkF m 11 #[.val (.int x0), .val (.int x1), .val (.long x2), .second, .val (.long x3), .second, .val (.long x4), .second, .val (.long x5), .second, .unset, .unset, .unset, .unset, .unset, .unset, .unset, .unset, .unset, .unset, .unset, .unset] [(.int x0)]))
        refine own_Goes.step (fun t k => XS.ifNo X0.here hx rfl (hb hby d4_11) rfl (XT.i0_eq_f (hc1)) k) ?_
        show own_Goes p e below s (own_F4 Z x0 x1 x2 x3 x4 x5 h0) 0 0 (s₁.setTop (mkF m 14 #[.val (.int x0), .val (.int x1), .val (.long x2), .second, .val (.long x3), .second, .val (.long x4), .second, .val (.long x5), .second, .unset, .unset, .unset, .unset, .unset, .unset, .unset, .unset, .unset, .unset, .unset, .unset] []))
        refine own_Goes.step (fun t k => XT.iconstV X0.here hx rfl (1 : Int32) (hb hby d4_14) (by decide) k) ?_
        show own_Goes p e below s (own_F4 Z x0 x1 x2 x3 x4 x5 h0) 0 0 (s₁.setTop (mkF m 15 #[.val (.int x0), .val (.int x1), .val (.long x2), .second, .val (.long x3), .second, .val (.long x4), .second, .val (.long x5), .second, .unset, .unset, .unset, .unset, .unset, .unset, .unset, .unset, .unset, .unset, .unset, .unset] [(.int (1 : Int32))]))
        exact own_endI X0 hx Bd.notSynchronized Bd.returns (hb hby d4_15) ⟨(congrArg (fun z => some (Value.int z)) (show (1 : Int32) = own_f4 x0 x1 x2 x3 x4 x5 from by simp only [own_f4, if_neg hc1, if_pos hc7])), rfl, e0⟩ (by decide) (by decide)
      · refine own_Goes.step (fun t k => XS.ifNo X0.here hx rfl (hb hby d4_5) rfl (XT.i0_eq_f hc7) k) ?_
        show own_Goes p e below s (own_F4 Z x0 x1 x2 x3 x4 x5 h0) 0 0 (s₁.setTop (mkF m 8 #[.val (.int x0), .val (.int x1), .val (.long x2), .second, .val (.long x3), .second, .val (.long x4), .second, .val (.long x5), .second, .unset, .unset, .unset, .unset, .unset, .unset, .unset, .unset, .unset, .unset, .unset, .unset] []))
        refine own_Goes.step (fun t k => XT.iconstV X0.here hx rfl (0 : Int32) (hb hby d4_8) (by decide) k) ?_
        show own_Goes p e below s (own_F4 Z x0 x1 x2 x3 x4 x5 h0) 0 0 (s₁.setTop (mkF m 9 #[.val (.int x0), .val (.int x1), .val (.long x2), .second, .val (.long x3), .second, .val (.long x4), .second, .val (.long x5), .second, .unset, .unset, .unset, .unset, .unset, .unset, .unset, .unset, .unset, .unset, .unset, .unset] [(.int (0 : Int32))]))
        exact own_endI X0 hx Bd.notSynchronized Bd.returns (hb hby d4_9) ⟨(congrArg (fun z => some (Value.int z)) (show (0 : Int32) = own_f4 x0 x1 x2 x3 x4 x5 from by simp only [own_f4, if_neg hc1, if_neg hc7])), rfl, e0⟩ (by decide) (by decide)
  obtain ⟨t2, o2, q1, q2, q3, q4⟩ := hgo
  exact ⟨t2, o2, castTop (ef_4 m x0 x1 x2 x3 x4 x5) q1, q2, q3, q4⟩
theorem d3_0 : decode method_3_code 0 = .ok (.iload_n 0, 1) := by decide +kernel
theorem d3_1 : decode method_3_code 1 = .ok (.ifCond .ge 5, 3) := by decide +kernel
theorem d3_4 : decode method_3_code 4 = .ok (.iconst (-1), 1) := by decide +kernel
theorem d3_5 : decode method_3_code 5 = .ok (.ireturn, 1) := by decide +kernel
theorem d3_6 : decode method_3_code 6 = .ok (.iload_n 0, 1) := by decide +kernel
theorem d3_7 : decode method_3_code 7 = .ok (.ifCond .le 5, 3) := by decide +kernel
theorem d3_10 : decode method_3_code 10 = .ok (.iconst 1, 1) := by decide +kernel
theorem d3_11 : decode method_3_code 11 = .ok (.ireturn, 1) := by decide +kernel
theorem d3_12 : decode method_3_code 12 = .ok (.iconst 0, 1) := by decide +kernel
theorem d3_13 : decode method_3_code 13 = .ok (.ireturn, 1) := by decide +kernel
theorem pn_3 : plainName "com/example/instance_picker/instancepicker/LoadOrderPinLaw" = true := by first | (simp [plainName, overriddenIn]; done) | decide +kernel
theorem pd_3 : parseMethodDescriptor "(I)I" = some ⟨[.int], (some .int)⟩ := by decide +kernel
theorem ef_3 (m : MethodId) (x0 : Int32) : entryFrame m #[(.int x0)] 1 = mkF m 0 #[.val (.int x0)] [] := by first | (simp [entryFrame, mkF, argsToLocals, Value.category]; done) | rfl
def own_f3 (x0 : Int32) : Int32 := (if x0 < (0 : Int32) then (-1 : Int32) else (if (0 : Int32) < x0 then (1 : Int32) else (0 : Int32)))
def own_F3 (Z : State) (x0 : Int32)  (h0 : Heap) (v : Option Value) (h : Heap) (L : List Loc) : Prop := v = some (.int (own_f3 x0)) ∧ L = [] ∧ h = h0
set_option maxRecDepth 65536 in
set_option maxHeartbeats 40000000 in
theorem own_m3 (l : Launch) (Z : State) (a0 : Array Value) (hw : ∀ d ∈ tables_1, d.before a0 Z = true) (ws : List Jvm.Cond) (x0 : Int32)  (h0 : Heap)   :
    MetFree l (⟨"com/example/instance_picker/instancepicker/LoadOrderPinLaw", "sign", "(I)I"⟩ : MethodName) (head1 (Jvm.Cond.code (⟨"com/example/instance_picker/instancepicker/LoadOrderPinLaw", "sign", "(I)I"⟩ : MethodName) method_3_code 1 (some .int) :: ws) ({ frames := 0, cells := 0, slots := 0, locals := 0 } : Room)) (fun a U => a = #[(.int x0)] ∧ Z.Warmed39 U.vm ∧ U.heap = h0) (fun _ _ _ _ _ => True) (fun _ U o U' => ∃ v L, o = .returned v ∧ own_F3 Z x0 h0 v U'.heap L ∧ FrameEnd U o U' L ({ frames := 0, cells := 0, slots := 0, locals := 0 } : Room).cells ({ frames := 0, cells := 0, slots := 0, locals := 0 } : Room).slots) := by
  refine MetFree.of_bodySF (plainFor_of_name pn_3) hisR ?_
  intro p e s m args below meth c s₁ Bd hml0 hP hK
  obtain ⟨rfl, hZ, hh⟩ := hP
  have hx := Bd.exec
  have hby := Bd.bytes
  have hml : c.maxLocals = 1 := hml0
  have hown : s.vm.findClass "com/example/instance_picker/instancepicker/LoadOrderPinLaw" = some m.cls := findClass_of_methodNamed Bd.named
  have hnm := (name_of_methodNamed Bd.named Bd.method).1
  have X0 : Stand p l e ({ frames := 0, cells := 0, slots := 0, locals := 0 } : Room) s m #[(.int x0)] below meth c s₁ [] 0 0 := Stand.of_body Bd
  have e0 : s₁.heap = h0 := by rw [← hh, Bd.state]; rfl
  have hgo : own_Goes p e below s (own_F3 Z x0 h0) 0 0 (s₁.setTop (mkF m 0 #[.val (.int x0)] [])) := by
    refine own_Goes.step (fun t k => XS.iloadN X0.here hx rfl (hb hby d3_0) rfl k) ?_
    show own_Goes p e below s (own_F3 Z x0 h0) 0 0 (s₁.setTop (mkF m 1 #[.val (.int x0)] [(.int x0)]))
    by_cases hc1 : x0 < (0 : Int32)
    · refine own_Goes.step (fun t k => XS.ifNo X0.here hx rfl (hb hby d3_1) rfl (XT.i0_ge_f hc1) k) ?_
      show own_Goes p e below s (own_F3 Z x0 h0) 0 0 (s₁.setTop (mkF m 4 #[.val (.int x0)] []))
      refine own_Goes.step (fun t k => XT.iconstV X0.here hx rfl (-1 : Int32) (hb hby d3_4) (by decide) k) ?_
      show own_Goes p e below s (own_F3 Z x0 h0) 0 0 (s₁.setTop (mkF m 5 #[.val (.int x0)] [(.int (-1 : Int32))]))
      exact own_endI X0 hx Bd.notSynchronized Bd.returns (hb hby d3_5) ⟨(congrArg (fun z => some (Value.int z)) (show (-1 : Int32) = own_f3 x0 from by simp only [own_f3, if_pos hc1])), rfl, e0⟩ (by decide) (by decide)
    · refine own_Goes.step (fun t k => XS.ifYes X0.here hx rfl (pc0 := 1) (pc' := 6) rfl (hb hby d3_1) rfl (XT.i0_ge_t hc1) (by decide) (by decide) k) ?_
      show own_Goes p e below s (own_F3 Z x0 h0) 0 0 (s₁.setTop (mkF m 6 #[.val (.int x0)] []))
      refine own_Goes.step (fun t k => XS.iloadN X0.here hx rfl (hb hby d3_6) rfl k) ?_
      show own_Goes p e below s (own_F3 Z x0 h0) 0 0 (s₁.setTop (mkF m 7 #[.val (.int x0)] [(.int x0)]))
      by_cases hc2 : (0 : Int32) < x0
      · refine own_Goes.step (fun t k => XS.ifNo X0.here hx rfl (hb hby d3_7) rfl (XT.i0_le_f hc2) k) ?_
        show own_Goes p e below s (own_F3 Z x0 h0) 0 0 (s₁.setTop (mkF m 10 #[.val (.int x0)] []))
        refine own_Goes.step (fun t k => XT.iconstV X0.here hx rfl (1 : Int32) (hb hby d3_10) (by decide) k) ?_
        show own_Goes p e below s (own_F3 Z x0 h0) 0 0 (s₁.setTop (mkF m 11 #[.val (.int x0)] [(.int (1 : Int32))]))
        exact own_endI X0 hx Bd.notSynchronized Bd.returns (hb hby d3_11) ⟨(congrArg (fun z => some (Value.int z)) (show (1 : Int32) = own_f3 x0 from by simp only [own_f3, if_neg hc1, if_pos hc2])), rfl, e0⟩ (by decide) (by decide)
      · refine own_Goes.step (fun t k => XS.ifYes X0.here hx rfl (pc0 := 7) (pc' := 12) rfl (hb hby d3_7) rfl (XT.i0_le_t hc2) (by decide) (by decide) k) ?_
        show own_Goes p e below s (own_F3 Z x0 h0) 0 0 (s₁.setTop (mkF m 12 #[.val (.int x0)] []))
        refine own_Goes.step (fun t k => XT.iconstV X0.here hx rfl (0 : Int32) (hb hby d3_12) (by decide) k) ?_
        show own_Goes p e below s (own_F3 Z x0 h0) 0 0 (s₁.setTop (mkF m 13 #[.val (.int x0)] [(.int (0 : Int32))]))
        exact own_endI X0 hx Bd.notSynchronized Bd.returns (hb hby d3_13) ⟨(congrArg (fun z => some (Value.int z)) (show (0 : Int32) = own_f3 x0 from by simp only [own_f3, if_neg hc1, if_neg hc2])), rfl, e0⟩ (by decide) (by decide)
  obtain ⟨t2, o2, q1, q2, q3, q4⟩ := hgo
  exact ⟨t2, o2, castTop (ef_3 m x0) q1, q2, q3, q4⟩
theorem d2_0 : decode jdk_35_method_42_code 0 = .ok (.lload_n 0, 1) := by decide +kernel
theorem d2_1 : decode jdk_35_method_42_code 1 = .ok (.lload_n 2, 1) := by decide +kernel
theorem d2_2 : decode jdk_35_method_42_code 2 = .ok (.lcmp, 1) := by decide +kernel
theorem d2_3 : decode jdk_35_method_42_code 3 = .ok (.ifCond .ge 7, 3) := by decide +kernel
theorem d2_6 : decode jdk_35_method_42_code 6 = .ok (.iconst (-1), 1) := by decide +kernel
theorem d2_7 : decode jdk_35_method_42_code 7 = .ok (.goto 14, 3) := by decide +kernel
theorem d2_10 : decode jdk_35_method_42_code 10 = .ok (.lload_n 0, 1) := by decide +kernel
theorem d2_11 : decode jdk_35_method_42_code 11 = .ok (.lload_n 2, 1) := by decide +kernel
theorem d2_12 : decode jdk_35_method_42_code 12 = .ok (.lcmp, 1) := by decide +kernel
theorem d2_13 : decode jdk_35_method_42_code 13 = .ok (.ifCond .ne 7, 3) := by decide +kernel
theorem d2_16 : decode jdk_35_method_42_code 16 = .ok (.iconst 0, 1) := by decide +kernel
theorem d2_17 : decode jdk_35_method_42_code 17 = .ok (.goto 4, 3) := by decide +kernel
theorem d2_20 : decode jdk_35_method_42_code 20 = .ok (.iconst 1, 1) := by decide +kernel
theorem d2_21 : decode jdk_35_method_42_code 21 = .ok (.ireturn, 1) := by decide +kernel
theorem pn_2 : plainName "java/lang/Long" = true := by first | (simp [plainName, overriddenIn]; done) | decide +kernel
theorem pd_2 : parseMethodDescriptor "(JJ)I" = some ⟨[.long, .long], (some .int)⟩ := by decide +kernel
theorem ef_2 (m : MethodId) (x0 : Int64) (x1 : Int64) : entryFrame m #[(.long x0), (.long x1)] 4 = mkF m 0 #[.val (.long x0), .second, .val (.long x1), .second] [] := by first | (simp [entryFrame, mkF, argsToLocals, Value.category]; done) | rfl
def own_f2 (x0 : Int64) (x1 : Int64) : Int32 := (if x0 < x1 then (-1 : Int32) else (if x0 = x1 then (0 : Int32) else (1 : Int32)))
def own_F2 (Z : State) (x0 : Int64) (x1 : Int64)  (h0 : Heap) (v : Option Value) (h : Heap) (L : List Loc) : Prop := v = some (.int (own_f2 x0 x1)) ∧ L = [] ∧ h = h0
set_option maxRecDepth 65536 in
set_option maxHeartbeats 40000000 in
theorem own_m2 (l : Launch) (Z : State) (a0 : Array Value) (hw : ∀ d ∈ tables_1, d.before a0 Z = true) (ws : List Jvm.Cond) (x0 : Int64) (x1 : Int64)  (h0 : Heap)   :
    MetFree l (⟨"java/lang/Long", "compare", "(JJ)I"⟩ : MethodName) (head1 (Jvm.Cond.code (⟨"java/lang/Long", "compare", "(JJ)I"⟩ : MethodName) jdk_35_method_42_code 4 (some .int) :: ws) ({ frames := 0, cells := 0, slots := 0, locals := 0 } : Room)) (fun a U => a = #[(.long x0), (.long x1)] ∧ Z.Warmed39 U.vm ∧ U.heap = h0) (fun _ _ _ _ _ => True) (fun _ U o U' => ∃ v L, o = .returned v ∧ own_F2 Z x0 x1 h0 v U'.heap L ∧ FrameEnd U o U' L ({ frames := 0, cells := 0, slots := 0, locals := 0 } : Room).cells ({ frames := 0, cells := 0, slots := 0, locals := 0 } : Room).slots) := by
  refine MetFree.of_bodySF (plainFor_of_name pn_2) hisR ?_
  intro p e s m args below meth c s₁ Bd hml0 hP hK
  obtain ⟨rfl, hZ, hh⟩ := hP
  have hx := Bd.exec
  have hby := Bd.bytes
  have hml : c.maxLocals = 4 := hml0
  have hown : s.vm.findClass "java/lang/Long" = some m.cls := findClass_of_methodNamed Bd.named
  have hnm := (name_of_methodNamed Bd.named Bd.method).1
  have X0 : Stand p l e ({ frames := 0, cells := 0, slots := 0, locals := 0 } : Room) s m #[(.long x0), (.long x1)] below meth c s₁ [] 0 0 := Stand.of_body Bd
  have e0 : s₁.heap = h0 := by rw [← hh, Bd.state]; rfl
  have hgo : own_Goes p e below s (own_F2 Z x0 x1 h0) 0 0 (s₁.setTop (mkF m 0 #[.val (.long x0), .second, .val (.long x1), .second] [])) := by
    refine own_Goes.step (fun t k => XT.lloadN X0.here hx rfl (hb hby d2_0) rfl k) ?_
    show own_Goes p e below s (own_F2 Z x0 x1 h0) 0 0 (s₁.setTop (mkF m 1 #[.val (.long x0), .second, .val (.long x1), .second] [(.long x0)]))
    refine own_Goes.step (fun t k => XT.lloadN X0.here hx rfl (hb hby d2_1) rfl k) ?_
    show own_Goes p e below s (own_F2 Z x0 x1 h0) 0 0 (s₁.setTop (mkF m 2 #[.val (.long x0), .second, .val (.long x1), .second] [(.long x1), (.long x0)]))
    refine own_Goes.step (fun t k => XT.lcmp X0.here hx rfl (hb hby d2_2) rfl k) ?_
    show own_Goes p e below s (own_F2 Z x0 x1 h0) 0 0 (s₁.setTop (mkF m 3 #[.val (.long x0), .second, .val (.long x1), .second] [(.int (XT.cmpL x0 x1))]))
    by_cases hc1 : x0 < x1
    · refine own_Goes.step (fun t k => XS.ifNo X0.here hx rfl (hb hby d2_3) rfl (XT.ll_ge_f hc1) k) ?_
      show own_Goes p e below s (own_F2 Z x0 x1 h0) 0 0 (s₁.setTop (mkF m 6 #[.val (.long x0), .second, .val (.long x1), .second] []))
      refine own_Goes.step (fun t k => XT.iconstV X0.here hx rfl (-1 : Int32) (hb hby d2_6) (by decide) k) ?_
      show own_Goes p e below s (own_F2 Z x0 x1 h0) 0 0 (s₁.setTop (mkF m 7 #[.val (.long x0), .second, .val (.long x1), .second] [(.int (-1 : Int32))]))
      refine own_Goes.step (fun t k => XS.goto X0.here hx rfl (pc0 := 7) (pc' := 21) rfl (hb hby d2_7) (by decide) (by decide) k) ?_
      show own_Goes p e below s (own_F2 Z x0 x1 h0) 0 0 (s₁.setTop (mkF m 21 #[.val (.long x0), .second, .val (.long x1), .second] [(.int (-1 : Int32))]))
      exact own_endI X0 hx Bd.notSynchronized Bd.returns (hb hby d2_21) ⟨(congrArg (fun z => some (Value.int z)) (show (-1 : Int32) = own_f2 x0 x1 from by simp only [own_f2, if_pos hc1])), rfl, e0⟩ (by decide) (by decide)
    · refine own_Goes.step (fun t k => XS.ifYes X0.here hx rfl (pc0 := 3) (pc' := 10) rfl (hb hby d2_3) rfl (XT.ll_ge_t hc1) (by decide) (by decide) k) ?_
      show own_Goes p e below s (own_F2 Z x0 x1 h0) 0 0 (s₁.setTop (mkF m 10 #[.val (.long x0), .second, .val (.long x1), .second] []))
      refine own_Goes.step (fun t k => XT.lloadN X0.here hx rfl (hb hby d2_10) rfl k) ?_
      show own_Goes p e below s (own_F2 Z x0 x1 h0) 0 0 (s₁.setTop (mkF m 11 #[.val (.long x0), .second, .val (.long x1), .second] [(.long x0)]))
      refine own_Goes.step (fun t k => XT.lloadN X0.here hx rfl (hb hby d2_11) rfl k) ?_
      show own_Goes p e below s (own_F2 Z x0 x1 h0) 0 0 (s₁.setTop (mkF m 12 #[.val (.long x0), .second, .val (.long x1), .second] [(.long x1), (.long x0)]))
      refine own_Goes.step (fun t k => XT.lcmp X0.here hx rfl (hb hby d2_12) rfl k) ?_
      show own_Goes p e below s (own_F2 Z x0 x1 h0) 0 0 (s₁.setTop (mkF m 13 #[.val (.long x0), .second, .val (.long x1), .second] [(.int (XT.cmpL x0 x1))]))
      by_cases hc2 : x0 = x1
      · refine own_Goes.step (fun t k => XS.ifNo X0.here hx rfl (hb hby d2_13) rfl (XT.ll_ne_f hc2) k) ?_
        show own_Goes p e below s (own_F2 Z x0 x1 h0) 0 0 (s₁.setTop (mkF m 16 #[.val (.long x0), .second, .val (.long x1), .second] []))
        refine own_Goes.step (fun t k => XT.iconstV X0.here hx rfl (0 : Int32) (hb hby d2_16) (by decide) k) ?_
        show own_Goes p e below s (own_F2 Z x0 x1 h0) 0 0 (s₁.setTop (mkF m 17 #[.val (.long x0), .second, .val (.long x1), .second] [(.int (0 : Int32))]))
        refine own_Goes.step (fun t k => XS.goto X0.here hx rfl (pc0 := 17) (pc' := 21) rfl (hb hby d2_17) (by decide) (by decide) k) ?_
        show own_Goes p e below s (own_F2 Z x0 x1 h0) 0 0 (s₁.setTop (mkF m 21 #[.val (.long x0), .second, .val (.long x1), .second] [(.int (0 : Int32))]))
        exact own_endI X0 hx Bd.notSynchronized Bd.returns (hb hby d2_21) ⟨(congrArg (fun z => some (Value.int z)) (show (0 : Int32) = own_f2 x0 x1 from by simp only [own_f2, if_neg hc1, if_pos hc2])), rfl, e0⟩ (by decide) (by decide)
      · refine own_Goes.step (fun t k => XS.ifYes X0.here hx rfl (pc0 := 13) (pc' := 20) rfl (hb hby d2_13) rfl (XT.ll_ne_t hc2) (by decide) (by decide) k) ?_
        show own_Goes p e below s (own_F2 Z x0 x1 h0) 0 0 (s₁.setTop (mkF m 20 #[.val (.long x0), .second, .val (.long x1), .second] []))
        refine own_Goes.step (fun t k => XT.iconstV X0.here hx rfl (1 : Int32) (hb hby d2_20) (by decide) k) ?_
        show own_Goes p e below s (own_F2 Z x0 x1 h0) 0 0 (s₁.setTop (mkF m 21 #[.val (.long x0), .second, .val (.long x1), .second] [(.int (1 : Int32))]))
        exact own_endI X0 hx Bd.notSynchronized Bd.returns (hb hby d2_21) ⟨(congrArg (fun z => some (Value.int z)) (show (1 : Int32) = own_f2 x0 x1 from by simp only [own_f2, if_neg hc1, if_neg hc2])), rfl, e0⟩ (by decide) (by decide)
  obtain ⟨t2, o2, q1, q2, q3, q4⟩ := hgo
  exact ⟨t2, o2, castTop (ef_2 m x0 x1) q1, q2, q3, q4⟩
theorem d1_0 : decode prog_13_method_9_code 0 = .ok (.lload_n 0, 1) := by decide +kernel
theorem d1_1 : decode prog_13_method_9_code 1 = .ok (.lload 6, 2) := by decide +kernel
theorem d1_3 : decode prog_13_method_9_code 3 = .ok (.lmul, 1) := by decide +kernel
theorem d1_4 : decode prog_13_method_9_code 4 = .ok (.lload 4, 2) := by decide +kernel
theorem d1_6 : decode prog_13_method_9_code 6 = .ok (.lload_n 2, 1) := by decide +kernel
theorem d1_7 : decode prog_13_method_9_code 7 = .ok (.lmul, 1) := by decide +kernel
theorem d1_8 : decode prog_13_method_9_code 8 = .ok (.invokestatic 48, 3) := by decide +kernel
theorem d1_11 : decode prog_13_method_9_code 11 = .ok (.ireturn, 1) := by decide +kernel
theorem pn_1 : plainName "com/example/instance_picker/instancepicker/Load" = true := by first | (simp [plainName, overriddenIn]; done) | decide +kernel
theorem pd_1 : parseMethodDescriptor "(JJJJ)I" = some ⟨[.long, .long, .long, .long], (some .int)⟩ := by decide +kernel
theorem ef_1 (m : MethodId) (x0 : Int64) (x1 : Int64) (x2 : Int64) (x3 : Int64) : entryFrame m #[(.long x0), (.long x1), (.long x2), (.long x3)] 8 = mkF m 0 #[.val (.long x0), .second, .val (.long x1), .second, .val (.long x2), .second, .val (.long x3), .second] [] := by first | (simp [entryFrame, mkF, argsToLocals, Value.category]; done) | rfl
def own_f1 (x0 : Int64) (x1 : Int64) (x2 : Int64) (x3 : Int64) : Int32 := (own_f2 (x0 * x3) (x2 * x1))
def own_F1 (Z : State) (x0 : Int64) (x1 : Int64) (x2 : Int64) (x3 : Int64)  (h0 : Heap) (v : Option Value) (h : Heap) (L : List Loc) : Prop := v = some (.int (own_f1 x0 x1 x2 x3)) ∧ L = [] ∧ h = h0
set_option maxRecDepth 65536 in
set_option maxHeartbeats 40000000 in
theorem own_m1 (l : Launch) (Z : State) (a0 : Array Value) (hw : ∀ d ∈ tables_1, d.before a0 Z = true) (ws : List Jvm.Cond) (x0 : Int64) (x1 : Int64) (x2 : Int64) (x3 : Int64)  (h0 : Heap)   :
    MetFree l (⟨"com/example/instance_picker/instancepicker/Load", "order", "(JJJJ)I"⟩ : MethodName) (head1 (Jvm.Cond.code (⟨"com/example/instance_picker/instancepicker/Load", "order", "(JJJJ)I"⟩ : MethodName) prog_13_method_9_code 8 (some .int) :: ws) ({ frames := 1, cells := 0, slots := 0, locals := 15 } : Room)) (fun a U => a = #[(.long x0), (.long x1), (.long x2), (.long x3)] ∧ Z.Warmed39 U.vm ∧ U.heap = h0) (fun _ _ _ _ _ => True) (fun _ U o U' => ∃ v L, o = .returned v ∧ own_F1 Z x0 x1 x2 x3 h0 v U'.heap L ∧ FrameEnd U o U' L ({ frames := 1, cells := 0, slots := 0, locals := 15 } : Room).cells ({ frames := 1, cells := 0, slots := 0, locals := 15 } : Room).slots) := by
  refine MetFree.of_bodySF (plainFor_of_name pn_1) hisR ?_
  intro p e s m args below meth c s₁ Bd hml0 hP hK
  obtain ⟨rfl, hZ, hh⟩ := hP
  have hx := Bd.exec
  have hby := Bd.bytes
  have hml : c.maxLocals = 8 := hml0
  have hown : s.vm.findClass "com/example/instance_picker/instancepicker/Load" = some m.cls := findClass_of_methodNamed Bd.named
  have hnm := (name_of_methodNamed Bd.named Bd.method).1
  have X0 : Stand p l e ({ frames := 1, cells := 0, slots := 0, locals := 15 } : Room) s m #[(.long x0), (.long x1), (.long x2), (.long x3)] below meth c s₁ [] 0 0 := Stand.of_body Bd
  have e0 : s₁.heap = h0 := by rw [← hh, Bd.state]; rfl
  have hgo : own_Goes p e below s (own_F1 Z x0 x1 x2 x3 h0) 0 0 (s₁.setTop (mkF m 0 #[.val (.long x0), .second, .val (.long x1), .second, .val (.long x2), .second, .val (.long x3), .second] [])) := by
    refine own_Goes.step (fun t k => XT.lloadN X0.here hx rfl (hb hby d1_0) rfl k) ?_
    show own_Goes p e below s (own_F1 Z x0 x1 x2 x3 h0) 0 0 (s₁.setTop (mkF m 1 #[.val (.long x0), .second, .val (.long x1), .second, .val (.long x2), .second, .val (.long x3), .second] [(.long x0)]))
    refine own_Goes.step (fun t k => XT.lload X0.here hx rfl (hb hby d1_1) rfl k) ?_
    show own_Goes p e below s (own_F1 Z x0 x1 x2 x3 h0) 0 0 (s₁.setTop (mkF m 3 #[.val (.long x0), .second, .val (.long x1), .second, .val (.long x2), .second, .val (.long x3), .second] [(.long x3), (.long x0)]))
    refine own_Goes.step (fun t k => XT.lmul X0.here hx rfl (hb hby d1_3) rfl k) ?_
    show own_Goes p e below s (own_F1 Z x0 x1 x2 x3 h0) 0 0 (s₁.setTop (mkF m 4 #[.val (.long x0), .second, .val (.long x1), .second, .val (.long x2), .second, .val (.long x3), .second] [(.long (x0 * x3))]))
    refine own_Goes.step (fun t k => XT.lload X0.here hx rfl (hb hby d1_4) rfl k) ?_
    show own_Goes p e below s (own_F1 Z x0 x1 x2 x3 h0) 0 0 (s₁.setTop (mkF m 6 #[.val (.long x0), .second, .val (.long x1), .second, .val (.long x2), .second, .val (.long x3), .second] [(.long x2), (.long (x0 * x3))]))
    refine own_Goes.step (fun t k => XT.lloadN X0.here hx rfl (hb hby d1_6) rfl k) ?_
    show own_Goes p e below s (own_F1 Z x0 x1 x2 x3 h0) 0 0 (s₁.setTop (mkF m 7 #[.val (.long x0), .second, .val (.long x1), .second, .val (.long x2), .second, .val (.long x3), .second] [(.long x1), (.long x2), (.long (x0 * x3))]))
    refine own_Goes.step (fun t k => XT.lmul X0.here hx rfl (hb hby d1_7) rfl k) ?_
    show own_Goes p e below s (own_F1 Z x0 x1 x2 x3 h0) 0 0 (s₁.setTop (mkF m 8 #[.val (.long x0), .second, .val (.long x1), .second, .val (.long x2), .second, .val (.long x3), .second] [(.long (x2 * x1)), (.long (x0 * x3))]))
    obtain ⟨w1, T1, L1, q1, Y1, st1⟩ := own_stat X0 hx hZ e0 hown (hw _ (List.mem_of_getElem? (i := 4) rfl)) (hw _ (List.mem_of_getElem? (i := 5) rfl)) (hw _ (List.mem_of_getElem? (i := 6) rfl)) (hw _ (List.mem_of_getElem? (i := 7) rfl)) (by decide) (own_m2 l Z a0 hw [] (x0 * x3) (x2 * x1) h0 ) (by decide) (W := 0) (by decide) (by decide) (by decide) (g := (mkF m 8 #[.val (.long x0), .second, .val (.long x1), .second, .val (.long x2), .second, .val (.long x3), .second] [(.long (x2 * x1)), (.long (x0 * x3))])) rfl (by rw [hml]; rfl) (argsL := [(.long (x0 * x3)), (.long (x2 * x1))]) (rest := []) (lenOf pd_2 rfl) rfl (by show 2 * 0 + _ ≤ _; exact Nat.le_of_eq rfl) (hb hby d1_8)
    obtain ⟨e1, X1⟩ := own_clean q1 Y1 rfl rfl
    obtain ⟨rfl, -, -⟩ := q1
    refine own_Goes.step st1 ?_
    show own_Goes p e below s (own_F1 Z x0 x1 x2 x3 h0) 0 0 (T1.setTop (mkF m 11 #[.val (.long x0), .second, .val (.long x1), .second, .val (.long x2), .second, .val (.long x3), .second] [(.int (own_f2 (x0 * x3) (x2 * x1)))]))
    exact own_endI X1 hx Bd.notSynchronized Bd.returns (hb hby d1_11) ⟨(congrArg (fun z => some (Value.int z)) (show (own_f2 (x0 * x3) (x2 * x1)) = own_f1 x0 x1 x2 x3 from by simp only [own_f1])), rfl, e1⟩ (by decide) (by decide)
  obtain ⟨t2, o2, q1, q2, q3, q4⟩ := hgo
  exact ⟨t2, o2, castTop (ef_1 m x0 x1 x2 x3) q1, q2, q3, q4⟩
theorem own_sh64 : ∀ k : Fin 64, ((Int32.ofNat k).toInt64.toUInt64 &&& Int64.toUInt64 63).toNat = (Int32.ofNat k).toInt.toNat := by decide +kernel
theorem own_shr (A : Int64) (hA : 0 ≤ A.toInt) (j : Int32) (h0 : 0 ≤ j.toInt) (h1 : j.toInt < 64) : (XT.ushrL A j).toInt = A.toInt / 2 ^ j.toInt.toNat := by
  have hn := own_fin32 (P := fun j => (j.toInt64.toUInt64 &&& Int64.toUInt64 63).toNat = j.toInt.toNat) 64 own_sh64 j h0 h1
  exact Jvm.Kit.i64_lushr (Jvm.Kit.i64_nonneg.mpr hA) hn (by omega)
theorem own_pow : ∀ k : Fin 64, (2 : Int) ^ 63 = 2 ^ (63 - k.val) * 2 ^ k.val := by decide +kernel
theorem own_ple : ∀ k : Fin 63, (2 : Int) ^ k.val ≤ 2 ^ 62 := by decide +kernel
theorem own_prod (A C : Int64) (hA : 0 ≤ A.toInt) (hC : 0 ≤ C.toInt) (j : Int32) (h0 : 0 ≤ j.toInt) (h1 : j.toInt < 63) :
    0 ≤ (XT.ushrL A j).toInt ∧ 0 < ((1 : Int64) + XT.ushrL C ((63 : Int32) - j)).toInt ∧ (XT.ushrL A j).toInt * ((1 : Int64) + XT.ushrL C ((63 : Int32) - j)).toInt < 2 ^ 63 := by
  have k63 : (63 : Int32).toInt = 63 := rfl
  have k1 : (1 : Int64).toInt = 1 := rfl
  have hs : ((63 : Int32) - j).toInt = 63 - j.toInt := by rw [Jvm.Kit.i32_sub (by rw [k63]; omega) (by rw [k63]; omega), k63]
  have e1 := own_shr A hA j h0 (by omega)
  have e2 := own_shr C hC ((63 : Int32) - j) (by omega) (by omega)
  obtain ⟨k, hk⟩ : ∃ k : Nat, k = j.toInt.toNat := ⟨_, rfl⟩
  have hk2 : ((63 : Int32) - j).toInt.toNat = 63 - k := by omega
  rw [← hk] at e1
  rw [hk2] at e2
  have hkl : k < 64 := by omega
  have hp := own_pow ⟨k, hkl⟩
  have hA2 := A.toInt_lt
  have hC2 := C.toInt_lt
  have p1 : (0 : Int) < 2 ^ k := Int.pow_pos (by decide)
  have p2 : (0 : Int) < 2 ^ (63 - k) := Int.pow_pos (by decide)
  have c0 : 0 ≤ C.toInt / 2 ^ (63 - k) := Int.ediv_nonneg hC (Int.le_of_lt p2)
  have c1 : C.toInt / 2 ^ (63 - k) < 2 ^ k := by
    apply Int.ediv_lt_of_lt_mul p2
    rw [Int.mul_comm, ← hp]
    exact hC2
  have hple : (2 : Int) ^ k ≤ 2 ^ 62 := own_ple ⟨k, by omega⟩
  have s : ((1 : Int64) + XT.ushrL C ((63 : Int32) - j)).toInt = 1 + C.toInt / 2 ^ (63 - k) := by
    rw [Jvm.Kit.i64_add (by rw [e2, k1]; omega) (by rw [e2, k1]; omega), e2, k1]
  rw [s, e1]
  have a0 : 0 ≤ A.toInt / 2 ^ k := Int.ediv_nonneg hA (Int.le_of_lt p1)
  refine ⟨a0, by omega, ?_⟩
  have m1 : A.toInt / 2 ^ k * (1 + C.toInt / 2 ^ (63 - k)) ≤ A.toInt / 2 ^ k * 2 ^ k := Int.mul_le_mul_of_nonneg_left (by omega) a0
  have m2 : A.toInt / 2 ^ k * 2 ^ k ≤ A.toInt := Int.ediv_mul_le _ (Int.ne_of_gt p1)
  omega
theorem own_sgn (P Q : Int64) : own_f3 (own_f2 P Q) = if P < Q then -1 else if P = Q then 0 else 1 := by
  unfold own_f2
  split
  · decide
  · split <;> decide
theorem own_ord (n d on od : Int64) (hn : 0 ≤ n.toInt) (hd : 0 < d.toInt) (hon : 0 ≤ on.toInt) (hod : 0 < od.toInt) (b1 : n.toInt * od.toInt < 2 ^ 63) (b2 : on.toInt * d.toInt < 2 ^ 63) :
    own_f3 (own_f1 n d on od) = own_f4 0 0 n d on od := by
  have b1' : 0 ≤ n.toInt * od.toInt := Int.mul_nonneg hn (Int.le_of_lt hod)
  have b2' : 0 ≤ on.toInt * d.toInt := Int.mul_nonneg hon (Int.le_of_lt hd)
  have P1 : (n * od).toInt = n.toInt * od.toInt := Jvm.Kit.i64_mul (by omega) b1
  have Q1 : (on * d).toInt = on.toInt * d.toInt := Jvm.Kit.i64_mul (by omega) b2
  have q1 : (n / d).toInt = n.toInt / d.toInt := by rw [Jvm.Kit.i64_div (by omega), Int.tdiv_eq_ediv_of_nonneg hn]
  have q2 : (on / od).toInt = on.toInt / od.toInt := by rw [Jvm.Kit.i64_div (by omega), Int.tdiv_eq_ediv_of_nonneg hon]
  have r1 : (n % d).toInt = n.toInt % d.toInt := by rw [Int64.toInt_mod, Int.tmod_eq_emod_of_nonneg hn]
  have r2 : (on % od).toInt = on.toInt % od.toInt := by rw [Int64.toInt_mod, Int.tmod_eq_emod_of_nonneg hon]
  have s1 := Int.emod_add_mul_ediv n.toInt d.toInt
  have s2 := Int.emod_add_mul_ediv on.toInt od.toInt
  have t1 := Int.emod_nonneg n.toInt (Int.ne_of_gt hd)
  have t2 := Int.emod_nonneg on.toInt (Int.ne_of_gt hod)
  have u1 := Int.emod_lt_of_pos n.toInt hd
  have u2 := Int.emod_lt_of_pos on.toInt hod
  have v1 : 0 ≤ n.toInt / d.toInt := Int.ediv_nonneg hn (Int.le_of_lt hd)
  have v2 : 0 ≤ on.toInt / od.toInt := Int.ediv_nonneg hon (Int.le_of_lt hod)
  generalize hN : n.toInt = N at *
  generalize hD : d.toInt = D at *
  generalize hON : on.toInt = ON at *
  generalize hOD : od.toInt = OD at *
  generalize N / D = a at *
  generalize ON / OD = b at *
  generalize N % D = u at *
  generalize ON % OD = v at *
  have eP : N * OD = D * OD * a + u * OD := by rw [← s1, Int.add_mul, Int.add_comm]; congr 1; rw [Int.mul_right_comm]
  have eQ : ON * D = D * OD * b + v * D := by rw [← s2, Int.add_mul, Int.add_comm]; congr 1; rw [Int.mul_right_comm, Int.mul_comm OD D]
  have w1 : 0 ≤ u * OD := Int.mul_nonneg t1 (Int.le_of_lt hod)
  have w2 : 0 ≤ v * D := Int.mul_nonneg t2 (Int.le_of_lt hd)
  have w3 : u * OD < D * OD := Int.mul_lt_mul_of_pos_right u1 hod
  have w4 : v * D < D * OD := by rw [Int.mul_comm D OD]; exact Int.mul_lt_mul_of_pos_right u2 hd
  have M0 : 0 ≤ D * OD := Int.mul_nonneg (Int.le_of_lt hd) (Int.le_of_lt hod)
  have x1 : 0 ≤ D * OD * a := Int.mul_nonneg M0 v1
  have x2 : 0 ≤ D * OD * b := Int.mul_nonneg M0 v2
  have y1 : ((n % d) * od).toInt = u * OD := by rw [Jvm.Kit.i64_mul (by rw [r1, hOD]; omega) (by rw [r1, hOD]; omega), r1, hOD]
  have y2 : ((on % od) * d).toInt = v * D := by rw [Jvm.Kit.i64_mul (by rw [r2, hD]; omega) (by rw [r2, hD]; omega), r2, hD]
  have g : own_f3 (own_f1 n d on od) = if n * od < on * d then -1 else if n * od = on * d then 0 else 1 := own_sgn _ _
  rw [g]
  simp only [own_f4, if_true]
  have cP : n * od < on * d ↔ D * OD * a + u * OD < D * OD * b + v * D := by rw [own_lt64, P1, Q1, eP, eQ]
  have cE : n * od = on * d ↔ D * OD * a + u * OD = D * OD * b + v * D := by rw [own_eq64, P1, Q1, eP, eQ]
  have c1 : n / d < on / od ↔ a < b := by rw [own_lt64, q1, q2]
  have c2 : on / od < n / d ↔ b < a := by rw [own_lt64, q1, q2]
  have c3 : (n % d) * od < (on % od) * d ↔ u * OD < v * D := by rw [own_lt64, y1, y2]
  have c4 : (on % od) * d < (n % d) * od ↔ v * D < u * OD := by rw [own_lt64, y1, y2]
  generalize u * OD = U at *
  generalize v * D = V at *
  generalize D * OD = M at *
  by_cases h1 : a < b
  · have z : M * a + M ≤ M * b := by
      have := Int.mul_le_mul_of_nonneg_left (show a + 1 ≤ b by omega) M0
      rw [Int.mul_add, Int.mul_one] at this; exact this
    rw [if_pos (cP.mpr (by omega)), if_pos (c1.mpr h1)]
  · rw [if_neg (fun q => h1 (c1.mp q))]
    by_cases h2 : b < a
    · have z : M * b + M ≤ M * a := by
        have := Int.mul_le_mul_of_nonneg_left (show b + 1 ≤ a by omega) M0
        rw [Int.mul_add, Int.mul_one] at this; exact this
      rw [if_neg (fun q => absurd (cP.mp q) (by omega)), if_neg (fun q => absurd (cE.mp q) (by omega)), if_pos (c2.mpr h2)]
    · rw [if_neg (fun q => h2 (c2.mp q))]
      have hab : a = b := by omega
      subst hab
      by_cases h3 : U < V
      · rw [if_pos (cP.mpr (by omega)), if_pos (c3.mpr h3)]
      · rw [if_neg (fun q => absurd (cP.mp q) (by omega)), if_neg (fun q => h3 (c3.mp q))]
        by_cases h4 : V < U
        · rw [if_neg (fun q => absurd (cE.mp q) (by omega)), if_pos (c4.mpr h4)]
        · rw [if_pos (cE.mpr (by omega)), if_neg (fun q => h4 (c4.mp q))]
theorem own_e63 (x : Int32) : 0 ≤ ((x &&& (63 : Int32)) % (63 : Int32)).toInt ∧ ((x &&& (63 : Int32)) % (63 : Int32)).toInt < 63 := by
  have a : (x &&& (63 : Int32)).toInt = x.toInt % 2 ^ 6 := Jvm.Kit.i32_mask x _ (k := 6) (by decide) (by decide)
  have b : ((x &&& (63 : Int32)) % (63 : Int32)).toInt = (x &&& (63 : Int32)).toInt % 63 := Jvm.Kit.i32_rem_nonneg (by omega)
  omega
theorem own_m63 (x : Int64) : 0 ≤ (x &&& (9223372036854775807 : Int64)).toInt := by
  have a : (x &&& (9223372036854775807 : Int64)).toInt = x.toInt % 2 ^ 63 := Jvm.Kit.i64_mask x _ (k := 63) (by decide) (by decide)
  omega
theorem pn_0 : plainName "com/example/instance_picker/instancepicker/LoadOrderPinLaw" = true := by first | (simp [plainName, overriddenIn]; done) | decide +kernel
theorem pd_0 : parseMethodDescriptor "(JJJJI)Z" = some ⟨[.long, .long, .long, .long, .int], (some .boolean)⟩ := by decide +kernel
theorem ef_0 (m : MethodId) (x0 : Int64) (x1 : Int64) (x2 : Int64) (x3 : Int64) (x4 : Int32) : entryFrame m #[(.long x0), (.long x1), (.long x2), (.long x3), (.int x4)] maxLocals = mkF m 0 #[.val (.long x0), .second, .val (.long x1), .second, .val (.long x2), .second, .val (.long x3), .second, .val (.int x4), .unset, .unset, .unset, .unset, .unset, .unset, .unset, .unset, .unset, .unset, .unset, .unset, .unset] [] := by first | (simp [entryFrame, mkF, argsToLocals, Value.category, maxLocals]; done) | rfl
def own_f0_1 (x0 : Int64) (x1 : Int64) (x2 : Int64) (x3 : Int64) (x4 : Int32) : Int32 := (if (x4 &&& (1 : Int32)) = (0 : Int32) then (0 : Int32) else (1 : Int32))
def own_f0_2 (x0 : Int64) (x1 : Int64) (x2 : Int64) (x3 : Int64) (x4 : Int32) : Int32 := (if (x4 &&& (2 : Int32)) = (0 : Int32) then (0 : Int32) else (1 : Int32))
def own_f0_3 (x0 : Int64) (x1 : Int64) (x2 : Int64) (x3 : Int64) (x4 : Int32) : Int64 := (if (own_f0_1 x0 x1 x2 x3 x4) = (0 : Int32) then (XT.ushrL (x0 &&& (9223372036854775807 : Int64)) (((XT.ushr x4 (8 : Int32)) &&& (63 : Int32)) % (63 : Int32))) else (1 : Int64))
def own_f0_4 (x0 : Int64) (x1 : Int64) (x2 : Int64) (x3 : Int64) (x4 : Int32) : Int64 := (if (own_f0_1 x0 x1 x2 x3 x4) = (0 : Int32) then ((1 : Int64) + (XT.ushrL (x1 &&& (9223372036854775807 : Int64)) ((63 : Int32) - (((XT.ushr x4 (2 : Int32)) &&& (63 : Int32)) % (63 : Int32))))) else (0 : Int64))
def own_f0_5 (x0 : Int64) (x1 : Int64) (x2 : Int64) (x3 : Int64) (x4 : Int32) : Int64 := (if (own_f0_2 x0 x1 x2 x3 x4) = (0 : Int32) then (XT.ushrL (x2 &&& (9223372036854775807 : Int64)) (((XT.ushr x4 (2 : Int32)) &&& (63 : Int32)) % (63 : Int32))) else (1 : Int64))
def own_f0_6 (x0 : Int64) (x1 : Int64) (x2 : Int64) (x3 : Int64) (x4 : Int32) : Int64 := (if (own_f0_2 x0 x1 x2 x3 x4) = (0 : Int32) then ((1 : Int64) + (XT.ushrL (x3 &&& (9223372036854775807 : Int64)) ((63 : Int32) - (((XT.ushr x4 (8 : Int32)) &&& (63 : Int32)) % (63 : Int32))))) else (0 : Int64))
def own_f0_7 (x0 : Int64) (x1 : Int64) (x2 : Int64) (x3 : Int64) (x4 : Int32) : Int32 := (own_f1 (own_f0_3 x0 x1 x2 x3 x4) (own_f0_4 x0 x1 x2 x3 x4) (own_f0_5 x0 x1 x2 x3 x4) (own_f0_6 x0 x1 x2 x3 x4))
def own_f0 (x0 : Int64) (x1 : Int64) (x2 : Int64) (x3 : Int64) (x4 : Int32) : Int32 := (if (own_f3 (own_f0_7 x0 x1 x2 x3 x4)) = (own_f4 (own_f0_1 x0 x1 x2 x3 x4) (own_f0_2 x0 x1 x2 x3 x4) (own_f0_3 x0 x1 x2 x3 x4) (own_f0_4 x0 x1 x2 x3 x4) (own_f0_5 x0 x1 x2 x3 x4) (own_f0_6 x0 x1 x2 x3 x4)) then (1 : Int32) else (0 : Int32))
theorem own_d1 (x0 x1 x2 x3 : Int64) (x4 : Int32) (h : own_f0_1 x0 x1 x2 x3 x4 = (0 : Int32)) : ¬ own_f0_4 x0 x1 x2 x3 x4 = (0 : Int64) := by
  have e1 := own_e63 (XT.ushr x4 (2 : Int32))
  have p2 := own_prod (x2 &&& 9223372036854775807) (x1 &&& 9223372036854775807) (own_m63 x2) (own_m63 x1) _ e1.1 e1.2
  unfold own_f0_4
  rw [if_pos h]
  intro q
  have := p2.2.1
  rw [q] at this
  exact absurd this (by decide)
theorem own_d2 (x0 x1 x2 x3 : Int64) (x4 : Int32) (h : own_f0_2 x0 x1 x2 x3 x4 = (0 : Int32)) : ¬ own_f0_6 x0 x1 x2 x3 x4 = (0 : Int64) := by
  have e2 := own_e63 (XT.ushr x4 (8 : Int32))
  have p1 := own_prod (x0 &&& 9223372036854775807) (x3 &&& 9223372036854775807) (own_m63 x0) (own_m63 x3) _ e2.1 e2.2
  unfold own_f0_6
  rw [if_pos h]
  intro q
  have := p1.2.1
  rw [q] at this
  exact absurd this (by decide)
def own_F0 (Z : State) (x0 : Int64) (x1 : Int64) (x2 : Int64) (x3 : Int64) (x4 : Int32)  (n0 : Nat) (h0 : Heap) (v : Option Value) (h : Heap) (L : List Loc) : Prop := v = some (.int (own_f0 x0 x1 x2 x3 x4)) ∧ Fr n0 L
set_option maxRecDepth 65536 in
set_option maxHeartbeats 40000000 in
theorem own_m0 (l : Launch) (Z : State) (a0 : Array Value) (hw : ∀ d ∈ tables_1, d.before a0 Z = true) (ws : List Jvm.Cond) (x0 : Int64) (x1 : Int64) (x2 : Int64) (x3 : Int64) (x4 : Int32)  (n0 : Nat) (h0 : Heap) (Z0 : n0 ≤ h0.size)   :
    MetFree l x (head1 (Jvm.Cond.code x code maxLocals ret :: ws) room_1) (fun a U => a = #[(.long x0), (.long x1), (.long x2), (.long x3), (.int x4)] ∧ Z.Warmed39 U.vm ∧ U.heap = h0) (fun _ _ _ _ _ => True) (fun _ U o U' => ∃ v L, o = .returned v ∧ own_F0 Z x0 x1 x2 x3 x4 n0 h0 v U'.heap L ∧ FrameEnd U o U' L room_1.cells room_1.slots) := by
  refine MetFree.of_bodySF (plainFor_of_name pn_0) hisR ?_
  intro p e s m args below meth c s₁ Bd hml0 hP hK
  obtain ⟨rfl, hZ, hh⟩ := hP
  have hx := Bd.exec
  have hby := Bd.bytes
  have hml : c.maxLocals = 22 := hml0
  have hown : s.vm.findClass "com/example/instance_picker/instancepicker/LoadOrderPinLaw" = some m.cls := findClass_of_methodNamed Bd.named
  have hnm := (name_of_methodNamed Bd.named Bd.method).1
  have X0 : Stand p l e room_1 s m #[(.long x0), (.long x1), (.long x2), (.long x3), (.int x4)] below meth c s₁ [] 0 0 := Stand.of_body Bd
  have e0 : s₁.heap = h0 := by rw [← hh, Bd.state]; rfl
  have N0 := Fr.nil n0
  have K0 : Keep h0 h0 [] := Keep.refl h0 []
  have hgo : own_Goes p e below s (own_F0 Z x0 x1 x2 x3 x4 n0 h0) room_1.cells room_1.slots (s₁.setTop (mkF m 0 #[.val (.long x0), .second, .val (.long x1), .second, .val (.long x2), .second, .val (.long x3), .second, .val (.int x4), .unset, .unset, .unset, .unset, .unset, .unset, .unset, .unset, .unset, .unset, .unset, .unset, .unset] [])) := by
    refine own_Goes.step (fun t k => XS.iload X0.here hx rfl (hb hby at_0) rfl k) ?_
    show own_Goes p e below s (own_F0 Z x0 x1 x2 x3 x4 n0 h0) room_1.cells room_1.slots (s₁.setTop (mkF m 2 #[.val (.long x0), .second, .val (.long x1), .second, .val (.long x2), .second, .val (.long x3), .second, .val (.int x4), .unset, .unset, .unset, .unset, .unset, .unset, .unset, .unset, .unset, .unset, .unset, .unset, .unset] [(.int x4)]))
    refine own_Goes.step (fun t k => XT.iconstV X0.here hx rfl (2 : Int32) (hb hby at_2) (by decide) k) ?_
    show own_Goes p e below s (own_F0 Z x0 x1 x2 x3 x4 n0 h0) room_1.cells room_1.slots (s₁.setTop (mkF m 3 #[.val (.long x0), .second, .val (.long x1), .second, .val (.long x2), .second, .val (.long x3), .second, .val (.int x4), .unset, .unset, .unset, .unset, .unset, .unset, .unset, .unset, .unset, .unset, .unset, .unset, .unset] [(.int (2 : Int32)), (.int x4)]))
    refine own_Goes.step (fun t k => XT.iushr X0.here hx rfl (hb hby at_3) rfl k) ?_
    show own_Goes p e below s (own_F0 Z x0 x1 x2 x3 x4 n0 h0) room_1.cells room_1.slots (s₁.setTop (mkF m 4 #[.val (.long x0), .second, .val (.long x1), .second, .val (.long x2), .second, .val (.long x3), .second, .val (.int x4), .unset, .unset, .unset, .unset, .unset, .unset, .unset, .unset, .unset, .unset, .unset, .unset, .unset] [(.int (XT.ushr x4 (2 : Int32)))]))
    refine own_Goes.step (fun t k => XT.bipushV X0.here hx rfl (63 : Int32) (hb hby at_4) (by decide) k) ?_
    show own_Goes p e below s (own_F0 Z x0 x1 x2 x3 x4 n0 h0) room_1.cells room_1.slots (s₁.setTop (mkF m 6 #[.val (.long x0), .second, .val (.long x1), .second, .val (.long x2), .second, .val (.long x3), .second, .val (.int x4), .unset, .unset, .unset, .unset, .unset, .unset, .unset, .unset, .unset, .unset, .unset, .unset, .unset] [(.int (63 : Int32)), (.int (XT.ushr x4 (2 : Int32)))]))
    refine own_Goes.step (fun t k => XS.iand X0.here hx rfl (hb hby at_6) rfl k) ?_
    show own_Goes p e below s (own_F0 Z x0 x1 x2 x3 x4 n0 h0) room_1.cells room_1.slots (s₁.setTop (mkF m 7 #[.val (.long x0), .second, .val (.long x1), .second, .val (.long x2), .second, .val (.long x3), .second, .val (.int x4), .unset, .unset, .unset, .unset, .unset, .unset, .unset, .unset, .unset, .unset, .unset, .unset, .unset] [(.int ((XT.ushr x4 (2 : Int32)) &&& (63 : Int32)))]))
    refine own_Goes.step (fun t k => XT.bipushV X0.here hx rfl (63 : Int32) (hb hby at_7) (by decide) k) ?_
    show own_Goes p e below s (own_F0 Z x0 x1 x2 x3 x4 n0 h0) room_1.cells room_1.slots (s₁.setTop (mkF m 9 #[.val (.long x0), .second, .val (.long x1), .second, .val (.long x2), .second, .val (.long x3), .second, .val (.int x4), .unset, .unset, .unset, .unset, .unset, .unset, .unset, .unset, .unset, .unset, .unset, .unset, .unset] [(.int (63 : Int32)), (.int ((XT.ushr x4 (2 : Int32)) &&& (63 : Int32)))]))
    refine own_Goes.step (fun t k => iremM X0 hx rfl (hb hby at_9) rfl (by decide) k) ?_
    show own_Goes p e below s (own_F0 Z x0 x1 x2 x3 x4 n0 h0) room_1.cells room_1.slots (s₁.setTop (mkF m 10 #[.val (.long x0), .second, .val (.long x1), .second, .val (.long x2), .second, .val (.long x3), .second, .val (.int x4), .unset, .unset, .unset, .unset, .unset, .unset, .unset, .unset, .unset, .unset, .unset, .unset, .unset] [(.int (((XT.ushr x4 (2 : Int32)) &&& (63 : Int32)) % (63 : Int32)))]))
    refine own_Goes.step (fun t k => XS.istore X0.here hx rfl (hb hby at_10) rfl (l' := #[.val (.long x0), .second, .val (.long x1), .second, .val (.long x2), .second, .val (.long x3), .second, .val (.int x4), .val (.int (((XT.ushr x4 (2 : Int32)) &&& (63 : Int32)) % (63 : Int32))), .unset, .unset, .unset, .unset, .unset, .unset, .unset, .unset, .unset, .unset, .unset, .unset]) rfl k) ?_
    show own_Goes p e below s (own_F0 Z x0 x1 x2 x3 x4 n0 h0) room_1.cells room_1.slots (s₁.setTop (mkF m 12 #[.val (.long x0), .second, .val (.long x1), .second, .val (.long x2), .second, .val (.long x3), .second, .val (.int x4), .val (.int (((XT.ushr x4 (2 : Int32)) &&& (63 : Int32)) % (63 : Int32))), .unset, .unset, .unset, .unset, .unset, .unset, .unset, .unset, .unset, .unset, .unset, .unset] []))
    refine own_Goes.step (fun t k => XS.iload X0.here hx rfl (hb hby at_12) rfl k) ?_
    show own_Goes p e below s (own_F0 Z x0 x1 x2 x3 x4 n0 h0) room_1.cells room_1.slots (s₁.setTop (mkF m 14 #[.val (.long x0), .second, .val (.long x1), .second, .val (.long x2), .second, .val (.long x3), .second, .val (.int x4), .val (.int (((XT.ushr x4 (2 : Int32)) &&& (63 : Int32)) % (63 : Int32))), .unset, .unset, .unset, .unset, .unset, .unset, .unset, .unset, .unset, .unset, .unset, .unset] [(.int x4)]))
    refine own_Goes.step (fun t k => XT.bipushV X0.here hx rfl (8 : Int32) (hb hby at_14) (by decide) k) ?_
    show own_Goes p e below s (own_F0 Z x0 x1 x2 x3 x4 n0 h0) room_1.cells room_1.slots (s₁.setTop (mkF m 16 #[.val (.long x0), .second, .val (.long x1), .second, .val (.long x2), .second, .val (.long x3), .second, .val (.int x4), .val (.int (((XT.ushr x4 (2 : Int32)) &&& (63 : Int32)) % (63 : Int32))), .unset, .unset, .unset, .unset, .unset, .unset, .unset, .unset, .unset, .unset, .unset, .unset] [(.int (8 : Int32)), (.int x4)]))
    refine own_Goes.step (fun t k => XT.iushr X0.here hx rfl (hb hby at_16) rfl k) ?_
    show own_Goes p e below s (own_F0 Z x0 x1 x2 x3 x4 n0 h0) room_1.cells room_1.slots (s₁.setTop (mkF m 17 #[.val (.long x0), .second, .val (.long x1), .second, .val (.long x2), .second, .val (.long x3), .second, .val (.int x4), .val (.int (((XT.ushr x4 (2 : Int32)) &&& (63 : Int32)) % (63 : Int32))), .unset, .unset, .unset, .unset, .unset, .unset, .unset, .unset, .unset, .unset, .unset, .unset] [(.int (XT.ushr x4 (8 : Int32)))]))
    refine own_Goes.step (fun t k => XT.bipushV X0.here hx rfl (63 : Int32) (hb hby at_17) (by decide) k) ?_
    show own_Goes p e below s (own_F0 Z x0 x1 x2 x3 x4 n0 h0) room_1.cells room_1.slots (s₁.setTop (mkF m 19 #[.val (.long x0), .second, .val (.long x1), .second, .val (.long x2), .second, .val (.long x3), .second, .val (.int x4), .val (.int (((XT.ushr x4 (2 : Int32)) &&& (63 : Int32)) % (63 : Int32))), .unset, .unset, .unset, .unset, .unset, .unset, .unset, .unset, .unset, .unset, .unset, .unset] [(.int (63 : Int32)), (.int (XT.ushr x4 (8 : Int32)))]))
    refine own_Goes.step (fun t k => XS.iand X0.here hx rfl (hb hby at_19) rfl k) ?_
    show own_Goes p e below s (own_F0 Z x0 x1 x2 x3 x4 n0 h0) room_1.cells room_1.slots (s₁.setTop (mkF m 20 #[.val (.long x0), .second, .val (.long x1), .second, .val (.long x2), .second, .val (.long x3), .second, .val (.int x4), .val (.int (((XT.ushr x4 (2 : Int32)) &&& (63 : Int32)) % (63 : Int32))), .unset, .unset, .unset, .unset, .unset, .unset, .unset, .unset, .unset, .unset, .unset, .unset] [(.int ((XT.ushr x4 (8 : Int32)) &&& (63 : Int32)))]))
    refine own_Goes.step (fun t k => XT.bipushV X0.here hx rfl (63 : Int32) (hb hby at_20) (by decide) k) ?_
    show own_Goes p e below s (own_F0 Z x0 x1 x2 x3 x4 n0 h0) room_1.cells room_1.slots (s₁.setTop (mkF m 22 #[.val (.long x0), .second, .val (.long x1), .second, .val (.long x2), .second, .val (.long x3), .second, .val (.int x4), .val (.int (((XT.ushr x4 (2 : Int32)) &&& (63 : Int32)) % (63 : Int32))), .unset, .unset, .unset, .unset, .unset, .unset, .unset, .unset, .unset, .unset, .unset, .unset] [(.int (63 : Int32)), (.int ((XT.ushr x4 (8 : Int32)) &&& (63 : Int32)))]))
    refine own_Goes.step (fun t k => iremM X0 hx rfl (hb hby at_22) rfl (by decide) k) ?_
    show own_Goes p e below s (own_F0 Z x0 x1 x2 x3 x4 n0 h0) room_1.cells room_1.slots (s₁.setTop (mkF m 23 #[.val (.long x0), .second, .val (.long x1), .second, .val (.long x2), .second, .val (.long x3), .second, .val (.int x4), .val (.int (((XT.ushr x4 (2 : Int32)) &&& (63 : Int32)) % (63 : Int32))), .unset, .unset, .unset, .unset, .unset, .unset, .unset, .unset, .unset, .unset, .unset, .unset] [(.int (((XT.ushr x4 (8 : Int32)) &&& (63 : Int32)) % (63 : Int32)))]))
    refine own_Goes.step (fun t k => XS.istore X0.here hx rfl (hb hby at_23) rfl (l' := #[.val (.long x0), .second, .val (.long x1), .second, .val (.long x2), .second, .val (.long x3), .second, .val (.int x4), .val (.int (((XT.ushr x4 (2 : Int32)) &&& (63 : Int32)) % (63 : Int32))), .val (.int (((XT.ushr x4 (8 : Int32)) &&& (63 : Int32)) % (63 : Int32))), .unset, .unset, .unset, .unset, .unset, .unset, .unset, .unset, .unset, .unset, .unset]) rfl k) ?_
    show own_Goes p e below s (own_F0 Z x0 x1 x2 x3 x4 n0 h0) room_1.cells room_1.slots (s₁.setTop (mkF m 25 #[.val (.long x0), .second, .val (.long x1), .second, .val (.long x2), .second, .val (.long x3), .second, .val (.int x4), .val (.int (((XT.ushr x4 (2 : Int32)) &&& (63 : Int32)) % (63 : Int32))), .val (.int (((XT.ushr x4 (8 : Int32)) &&& (63 : Int32)) % (63 : Int32))), .unset, .unset, .unset, .unset, .unset, .unset, .unset, .unset, .unset, .unset, .unset] []))
    refine own_Goes.step (fun t k => XS.iload X0.here hx rfl (hb hby at_25) rfl k) ?_
    show own_Goes p e below s (own_F0 Z x0 x1 x2 x3 x4 n0 h0) room_1.cells room_1.slots (s₁.setTop (mkF m 27 #[.val (.long x0), .second, .val (.long x1), .second, .val (.long x2), .second, .val (.long x3), .second, .val (.int x4), .val (.int (((XT.ushr x4 (2 : Int32)) &&& (63 : Int32)) % (63 : Int32))), .val (.int (((XT.ushr x4 (8 : Int32)) &&& (63 : Int32)) % (63 : Int32))), .unset, .unset, .unset, .unset, .unset, .unset, .unset, .unset, .unset, .unset, .unset] [(.int x4)]))
    refine own_Goes.step (fun t k => XT.iconstV X0.here hx rfl (1 : Int32) (hb hby at_27) (by decide) k) ?_
    show own_Goes p e below s (own_F0 Z x0 x1 x2 x3 x4 n0 h0) room_1.cells room_1.slots (s₁.setTop (mkF m 28 #[.val (.long x0), .second, .val (.long x1), .second, .val (.long x2), .second, .val (.long x3), .second, .val (.int x4), .val (.int (((XT.ushr x4 (2 : Int32)) &&& (63 : Int32)) % (63 : Int32))), .val (.int (((XT.ushr x4 (8 : Int32)) &&& (63 : Int32)) % (63 : Int32))), .unset, .unset, .unset, .unset, .unset, .unset, .unset, .unset, .unset, .unset, .unset] [(.int (1 : Int32)), (.int x4)]))
    refine own_Goes.step (fun t k => XS.iand X0.here hx rfl (hb hby at_28) rfl k) ?_
    show own_Goes p e below s (own_F0 Z x0 x1 x2 x3 x4 n0 h0) room_1.cells room_1.slots (s₁.setTop (mkF m 29 #[.val (.long x0), .second, .val (.long x1), .second, .val (.long x2), .second, .val (.long x3), .second, .val (.int x4), .val (.int (((XT.ushr x4 (2 : Int32)) &&& (63 : Int32)) % (63 : Int32))), .val (.int (((XT.ushr x4 (8 : Int32)) &&& (63 : Int32)) % (63 : Int32))), .unset, .unset, .unset, .unset, .unset, .unset, .unset, .unset, .unset, .unset, .unset] [(.int (x4 &&& (1 : Int32)))]))
    have J16 : own_Goes p e below s (own_F0 Z x0 x1 x2 x3 x4 n0 h0) room_1.cells room_1.slots (s₁.setTop (mkF m 37 #[.val (.long x0), .second, .val (.long x1), .second, .val (.long x2), .second, .val (.long x3), .second, .val (.int x4), .val (.int (((XT.ushr x4 (2 : Int32)) &&& (63 : Int32)) % (63 : Int32))), .val (.int (((XT.ushr x4 (8 : Int32)) &&& (63 : Int32)) % (63 : Int32))), .unset, .unset, .unset, .unset, .unset, .unset, .unset, .unset, .unset, .unset, .unset] [(.int (own_f0_1 x0 x1 x2 x3 x4))])) := by
      refine own_Goes.step (fun t k => XS.istore X0.here hx rfl (hb hby at_37) rfl (l' := #[.val (.long x0), .second, .val (.long x1), .second, .val (.long x2), .second, .val (.long x3), .second, .val (.int x4), .val (.int (((XT.ushr x4 (2 : Int32)) &&& (63 : Int32)) % (63 : Int32))), .val (.int (((XT.ushr x4 (8 : Int32)) &&& (63 : Int32)) % (63 : Int32))), .val (.int (own_f0_1 x0 x1 x2 x3 x4)), .unset, .unset, .unset, .unset, .unset, .unset, .unset, .unset, .unset, .unset]) rfl k) ?_
      show own_Goes p e below s (own_F0 Z x0 x1 x2 x3 x4 n0 h0) room_1.cells room_1.slots (s₁.setTop (mkF m 39 #[.val (.long x0), .second, .val (.long x1), .second, .val (.long x2), .second, .val (.long x3), .second, .val (.int x4), .val (.int (((XT.ushr x4 (2 : Int32)) &&& (63 : Int32)) % (63 : Int32))), .val (.int (((XT.ushr x4 (8 : Int32)) &&& (63 : Int32)) % (63 : Int32))), .val (.int (own_f0_1 x0 x1 x2 x3 x4)), .unset, .unset, .unset, .unset, .unset, .unset, .unset, .unset, .unset, .unset] []))
      refine own_Goes.step (fun t k => XS.iload X0.here hx rfl (hb hby at_39) rfl k) ?_
      show own_Goes p e below s (own_F0 Z x0 x1 x2 x3 x4 n0 h0) room_1.cells room_1.slots (s₁.setTop (mkF m 41 #[.val (.long x0), .second, .val (.long x1), .second, .val (.long x2), .second, .val (.long x3), .second, .val (.int x4), .val (.int (((XT.ushr x4 (2 : Int32)) &&& (63 : Int32)) % (63 : Int32))), .val (.int (((XT.ushr x4 (8 : Int32)) &&& (63 : Int32)) % (63 : Int32))), .val (.int (own_f0_1 x0 x1 x2 x3 x4)), .unset, .unset, .unset, .unset, .unset, .unset, .unset, .unset, .unset, .unset] [(.int x4)]))
      refine own_Goes.step (fun t k => XT.iconstV X0.here hx rfl (2 : Int32) (hb hby at_41) (by decide) k) ?_
      show own_Goes p e below s (own_F0 Z x0 x1 x2 x3 x4 n0 h0) room_1.cells room_1.slots (s₁.setTop (mkF m 42 #[.val (.long x0), .second, .val (.long x1), .second, .val (.long x2), .second, .val (.long x3), .second, .val (.int x4), .val (.int (((XT.ushr x4 (2 : Int32)) &&& (63 : Int32)) % (63 : Int32))), .val (.int (((XT.ushr x4 (8 : Int32)) &&& (63 : Int32)) % (63 : Int32))), .val (.int (own_f0_1 x0 x1 x2 x3 x4)), .unset, .unset, .unset, .unset, .unset, .unset, .unset, .unset, .unset, .unset] [(.int (2 : Int32)), (.int x4)]))
      refine own_Goes.step (fun t k => XS.iand X0.here hx rfl (hb hby at_42) rfl k) ?_
      show own_Goes p e below s (own_F0 Z x0 x1 x2 x3 x4 n0 h0) room_1.cells room_1.slots (s₁.setTop (mkF m 43 #[.val (.long x0), .second, .val (.long x1), .second, .val (.long x2), .second, .val (.long x3), .second, .val (.int x4), .val (.int (((XT.ushr x4 (2 : Int32)) &&& (63 : Int32)) % (63 : Int32))), .val (.int (((XT.ushr x4 (8 : Int32)) &&& (63 : Int32)) % (63 : Int32))), .val (.int (own_f0_1 x0 x1 x2 x3 x4)), .unset, .unset, .unset, .unset, .unset, .unset, .unset, .unset, .unset, .unset] [(.int (x4 &&& (2 : Int32)))]))
      have J15 : own_Goes p e below s (own_F0 Z x0 x1 x2 x3 x4 n0 h0) room_1.cells room_1.slots (s₁.setTop (mkF m 51 #[.val (.long x0), .second, .val (.long x1), .second, .val (.long x2), .second, .val (.long x3), .second, .val (.int x4), .val (.int (((XT.ushr x4 (2 : Int32)) &&& (63 : Int32)) % (63 : Int32))), .val (.int (((XT.ushr x4 (8 : Int32)) &&& (63 : Int32)) % (63 : Int32))), .val (.int (own_f0_1 x0 x1 x2 x3 x4)), .unset, .unset, .unset, .unset, .unset, .unset, .unset, .unset, .unset, .unset] [(.int (own_f0_2 x0 x1 x2 x3 x4))])) := by
        refine own_Goes.step (fun t k => XS.istore X0.here hx rfl (hb hby at_51) rfl (l' := #[.val (.long x0), .second, .val (.long x1), .second, .val (.long x2), .second, .val (.long x3), .second, .val (.int x4), .val (.int (((XT.ushr x4 (2 : Int32)) &&& (63 : Int32)) % (63 : Int32))), .val (.int (((XT.ushr x4 (8 : Int32)) &&& (63 : Int32)) % (63 : Int32))), .val (.int (own_f0_1 x0 x1 x2 x3 x4)), .val (.int (own_f0_2 x0 x1 x2 x3 x4)), .unset, .unset, .unset, .unset, .unset, .unset, .unset, .unset, .unset]) rfl k) ?_
        show own_Goes p e below s (own_F0 Z x0 x1 x2 x3 x4 n0 h0) room_1.cells room_1.slots (s₁.setTop (mkF m 53 #[.val (.long x0), .second, .val (.long x1), .second, .val (.long x2), .second, .val (.long x3), .second, .val (.int x4), .val (.int (((XT.ushr x4 (2 : Int32)) &&& (63 : Int32)) % (63 : Int32))), .val (.int (((XT.ushr x4 (8 : Int32)) &&& (63 : Int32)) % (63 : Int32))), .val (.int (own_f0_1 x0 x1 x2 x3 x4)), .val (.int (own_f0_2 x0 x1 x2 x3 x4)), .unset, .unset, .unset, .unset, .unset, .unset, .unset, .unset, .unset] []))
        refine own_Goes.step (fun t k => XS.iload X0.here hx rfl (hb hby at_53) rfl k) ?_
        show own_Goes p e below s (own_F0 Z x0 x1 x2 x3 x4 n0 h0) room_1.cells room_1.slots (s₁.setTop (mkF m 55 #[.val (.long x0), .second, .val (.long x1), .second, .val (.long x2), .second, .val (.long x3), .second, .val (.int x4), .val (.int (((XT.ushr x4 (2 : Int32)) &&& (63 : Int32)) % (63 : Int32))), .val (.int (((XT.ushr x4 (8 : Int32)) &&& (63 : Int32)) % (63 : Int32))), .val (.int (own_f0_1 x0 x1 x2 x3 x4)), .val (.int (own_f0_2 x0 x1 x2 x3 x4)), .unset, .unset, .unset, .unset, .unset, .unset, .unset, .unset, .unset] [(.int (own_f0_1 x0 x1 x2 x3 x4))]))
        have J14 : own_Goes p e below s (own_F0 Z x0 x1 x2 x3 x4 n0 h0) room_1.cells room_1.slots (s₁.setTop (mkF m 70 #[.val (.long x0), .second, .val (.long x1), .second, .val (.long x2), .second, .val (.long x3), .second, .val (.int x4), .val (.int (((XT.ushr x4 (2 : Int32)) &&& (63 : Int32)) % (63 : Int32))), .val (.int (((XT.ushr x4 (8 : Int32)) &&& (63 : Int32)) % (63 : Int32))), .val (.int (own_f0_1 x0 x1 x2 x3 x4)), .val (.int (own_f0_2 x0 x1 x2 x3 x4)), .unset, .unset, .unset, .unset, .unset, .unset, .unset, .unset, .unset] [(.long (own_f0_3 x0 x1 x2 x3 x4))])) := by
          refine own_Goes.step (fun t k => XT.lstore X0.here hx rfl (hb hby at_70) rfl (l' := #[.val (.long x0), .second, .val (.long x1), .second, .val (.long x2), .second, .val (.long x3), .second, .val (.int x4), .val (.int (((XT.ushr x4 (2 : Int32)) &&& (63 : Int32)) % (63 : Int32))), .val (.int (((XT.ushr x4 (8 : Int32)) &&& (63 : Int32)) % (63 : Int32))), .val (.int (own_f0_1 x0 x1 x2 x3 x4)), .val (.int (own_f0_2 x0 x1 x2 x3 x4)), .val (.long (own_f0_3 x0 x1 x2 x3 x4)), .second, .unset, .unset, .unset, .unset, .unset, .unset, .unset]) rfl k) ?_
          show own_Goes p e below s (own_F0 Z x0 x1 x2 x3 x4 n0 h0) room_1.cells room_1.slots (s₁.setTop (mkF m 72 #[.val (.long x0), .second, .val (.long x1), .second, .val (.long x2), .second, .val (.long x3), .second, .val (.int x4), .val (.int (((XT.ushr x4 (2 : Int32)) &&& (63 : Int32)) % (63 : Int32))), .val (.int (((XT.ushr x4 (8 : Int32)) &&& (63 : Int32)) % (63 : Int32))), .val (.int (own_f0_1 x0 x1 x2 x3 x4)), .val (.int (own_f0_2 x0 x1 x2 x3 x4)), .val (.long (own_f0_3 x0 x1 x2 x3 x4)), .second, .unset, .unset, .unset, .unset, .unset, .unset, .unset] []))
          refine own_Goes.step (fun t k => XS.iload X0.here hx rfl (hb hby at_72) rfl k) ?_
          show own_Goes p e below s (own_F0 Z x0 x1 x2 x3 x4 n0 h0) room_1.cells room_1.slots (s₁.setTop (mkF m 74 #[.val (.long x0), .second, .val (.long x1), .second, .val (.long x2), .second, .val (.long x3), .second, .val (.int x4), .val (.int (((XT.ushr x4 (2 : Int32)) &&& (63 : Int32)) % (63 : Int32))), .val (.int (((XT.ushr x4 (8 : Int32)) &&& (63 : Int32)) % (63 : Int32))), .val (.int (own_f0_1 x0 x1 x2 x3 x4)), .val (.int (own_f0_2 x0 x1 x2 x3 x4)), .val (.long (own_f0_3 x0 x1 x2 x3 x4)), .second, .unset, .unset, .unset, .unset, .unset, .unset, .unset] [(.int (own_f0_1 x0 x1 x2 x3 x4))]))
          have J13 : own_Goes p e below s (own_F0 Z x0 x1 x2 x3 x4 n0 h0) room_1.cells room_1.slots (s₁.setTop (mkF m 94 #[.val (.long x0), .second, .val (.long x1), .second, .val (.long x2), .second, .val (.long x3), .second, .val (.int x4), .val (.int (((XT.ushr x4 (2 : Int32)) &&& (63 : Int32)) % (63 : Int32))), .val (.int (((XT.ushr x4 (8 : Int32)) &&& (63 : Int32)) % (63 : Int32))), .val (.int (own_f0_1 x0 x1 x2 x3 x4)), .val (.int (own_f0_2 x0 x1 x2 x3 x4)), .val (.long (own_f0_3 x0 x1 x2 x3 x4)), .second, .unset, .unset, .unset, .unset, .unset, .unset, .unset] [(.long (own_f0_4 x0 x1 x2 x3 x4))])) := by
            refine own_Goes.step (fun t k => XT.lstore X0.here hx rfl (hb hby at_94) rfl (l' := #[.val (.long x0), .second, .val (.long x1), .second, .val (.long x2), .second, .val (.long x3), .second, .val (.int x4), .val (.int (((XT.ushr x4 (2 : Int32)) &&& (63 : Int32)) % (63 : Int32))), .val (.int (((XT.ushr x4 (8 : Int32)) &&& (63 : Int32)) % (63 : Int32))), .val (.int (own_f0_1 x0 x1 x2 x3 x4)), .val (.int (own_f0_2 x0 x1 x2 x3 x4)), .val (.long (own_f0_3 x0 x1 x2 x3 x4)), .second, .val (.long (own_f0_4 x0 x1 x2 x3 x4)), .second, .unset, .unset, .unset, .unset, .unset]) rfl k) ?_
            show own_Goes p e below s (own_F0 Z x0 x1 x2 x3 x4 n0 h0) room_1.cells room_1.slots (s₁.setTop (mkF m 96 #[.val (.long x0), .second, .val (.long x1), .second, .val (.long x2), .second, .val (.long x3), .second, .val (.int x4), .val (.int (((XT.ushr x4 (2 : Int32)) &&& (63 : Int32)) % (63 : Int32))), .val (.int (((XT.ushr x4 (8 : Int32)) &&& (63 : Int32)) % (63 : Int32))), .val (.int (own_f0_1 x0 x1 x2 x3 x4)), .val (.int (own_f0_2 x0 x1 x2 x3 x4)), .val (.long (own_f0_3 x0 x1 x2 x3 x4)), .second, .val (.long (own_f0_4 x0 x1 x2 x3 x4)), .second, .unset, .unset, .unset, .unset, .unset] []))
            refine own_Goes.step (fun t k => XS.iload X0.here hx rfl (hb hby at_96) rfl k) ?_
            show own_Goes p e below s (own_F0 Z x0 x1 x2 x3 x4 n0 h0) room_1.cells room_1.slots (s₁.setTop (mkF m 98 #[.val (.long x0), .second, .val (.long x1), .second, .val (.long x2), .second, .val (.long x3), .second, .val (.int x4), .val (.int (((XT.ushr x4 (2 : Int32)) &&& (63 : Int32)) % (63 : Int32))), .val (.int (((XT.ushr x4 (8 : Int32)) &&& (63 : Int32)) % (63 : Int32))), .val (.int (own_f0_1 x0 x1 x2 x3 x4)), .val (.int (own_f0_2 x0 x1 x2 x3 x4)), .val (.long (own_f0_3 x0 x1 x2 x3 x4)), .second, .val (.long (own_f0_4 x0 x1 x2 x3 x4)), .second, .unset, .unset, .unset, .unset, .unset] [(.int (own_f0_2 x0 x1 x2 x3 x4))]))
            have J12 : own_Goes p e below s (own_F0 Z x0 x1 x2 x3 x4 n0 h0) room_1.cells room_1.slots (s₁.setTop (mkF m 114 #[.val (.long x0), .second, .val (.long x1), .second, .val (.long x2), .second, .val (.long x3), .second, .val (.int x4), .val (.int (((XT.ushr x4 (2 : Int32)) &&& (63 : Int32)) % (63 : Int32))), .val (.int (((XT.ushr x4 (8 : Int32)) &&& (63 : Int32)) % (63 : Int32))), .val (.int (own_f0_1 x0 x1 x2 x3 x4)), .val (.int (own_f0_2 x0 x1 x2 x3 x4)), .val (.long (own_f0_3 x0 x1 x2 x3 x4)), .second, .val (.long (own_f0_4 x0 x1 x2 x3 x4)), .second, .unset, .unset, .unset, .unset, .unset] [(.long (own_f0_5 x0 x1 x2 x3 x4))])) := by
              refine own_Goes.step (fun t k => XT.lstore X0.here hx rfl (hb hby at_114) rfl (l' := #[.val (.long x0), .second, .val (.long x1), .second, .val (.long x2), .second, .val (.long x3), .second, .val (.int x4), .val (.int (((XT.ushr x4 (2 : Int32)) &&& (63 : Int32)) % (63 : Int32))), .val (.int (((XT.ushr x4 (8 : Int32)) &&& (63 : Int32)) % (63 : Int32))), .val (.int (own_f0_1 x0 x1 x2 x3 x4)), .val (.int (own_f0_2 x0 x1 x2 x3 x4)), .val (.long (own_f0_3 x0 x1 x2 x3 x4)), .second, .val (.long (own_f0_4 x0 x1 x2 x3 x4)), .second, .val (.long (own_f0_5 x0 x1 x2 x3 x4)), .second, .unset, .unset, .unset]) rfl k) ?_
              show own_Goes p e below s (own_F0 Z x0 x1 x2 x3 x4 n0 h0) room_1.cells room_1.slots (s₁.setTop (mkF m 116 #[.val (.long x0), .second, .val (.long x1), .second, .val (.long x2), .second, .val (.long x3), .second, .val (.int x4), .val (.int (((XT.ushr x4 (2 : Int32)) &&& (63 : Int32)) % (63 : Int32))), .val (.int (((XT.ushr x4 (8 : Int32)) &&& (63 : Int32)) % (63 : Int32))), .val (.int (own_f0_1 x0 x1 x2 x3 x4)), .val (.int (own_f0_2 x0 x1 x2 x3 x4)), .val (.long (own_f0_3 x0 x1 x2 x3 x4)), .second, .val (.long (own_f0_4 x0 x1 x2 x3 x4)), .second, .val (.long (own_f0_5 x0 x1 x2 x3 x4)), .second, .unset, .unset, .unset] []))
              refine own_Goes.step (fun t k => XS.iload X0.here hx rfl (hb hby at_116) rfl k) ?_
              show own_Goes p e below s (own_F0 Z x0 x1 x2 x3 x4 n0 h0) room_1.cells room_1.slots (s₁.setTop (mkF m 118 #[.val (.long x0), .second, .val (.long x1), .second, .val (.long x2), .second, .val (.long x3), .second, .val (.int x4), .val (.int (((XT.ushr x4 (2 : Int32)) &&& (63 : Int32)) % (63 : Int32))), .val (.int (((XT.ushr x4 (8 : Int32)) &&& (63 : Int32)) % (63 : Int32))), .val (.int (own_f0_1 x0 x1 x2 x3 x4)), .val (.int (own_f0_2 x0 x1 x2 x3 x4)), .val (.long (own_f0_3 x0 x1 x2 x3 x4)), .second, .val (.long (own_f0_4 x0 x1 x2 x3 x4)), .second, .val (.long (own_f0_5 x0 x1 x2 x3 x4)), .second, .unset, .unset, .unset] [(.int (own_f0_2 x0 x1 x2 x3 x4))]))
              have J11 : own_Goes p e below s (own_F0 Z x0 x1 x2 x3 x4 n0 h0) room_1.cells room_1.slots (s₁.setTop (mkF m 139 #[.val (.long x0), .second, .val (.long x1), .second, .val (.long x2), .second, .val (.long x3), .second, .val (.int x4), .val (.int (((XT.ushr x4 (2 : Int32)) &&& (63 : Int32)) % (63 : Int32))), .val (.int (((XT.ushr x4 (8 : Int32)) &&& (63 : Int32)) % (63 : Int32))), .val (.int (own_f0_1 x0 x1 x2 x3 x4)), .val (.int (own_f0_2 x0 x1 x2 x3 x4)), .val (.long (own_f0_3 x0 x1 x2 x3 x4)), .second, .val (.long (own_f0_4 x0 x1 x2 x3 x4)), .second, .val (.long (own_f0_5 x0 x1 x2 x3 x4)), .second, .unset, .unset, .unset] [(.long (own_f0_6 x0 x1 x2 x3 x4))])) := by
                refine own_Goes.step (fun t k => XT.lstore X0.here hx rfl (hb hby at_139) rfl (l' := #[.val (.long x0), .second, .val (.long x1), .second, .val (.long x2), .second, .val (.long x3), .second, .val (.int x4), .val (.int (((XT.ushr x4 (2 : Int32)) &&& (63 : Int32)) % (63 : Int32))), .val (.int (((XT.ushr x4 (8 : Int32)) &&& (63 : Int32)) % (63 : Int32))), .val (.int (own_f0_1 x0 x1 x2 x3 x4)), .val (.int (own_f0_2 x0 x1 x2 x3 x4)), .val (.long (own_f0_3 x0 x1 x2 x3 x4)), .second, .val (.long (own_f0_4 x0 x1 x2 x3 x4)), .second, .val (.long (own_f0_5 x0 x1 x2 x3 x4)), .second, .val (.long (own_f0_6 x0 x1 x2 x3 x4)), .second, .unset]) rfl k) ?_
                show own_Goes p e below s (own_F0 Z x0 x1 x2 x3 x4 n0 h0) room_1.cells room_1.slots (s₁.setTop (mkF m 141 #[.val (.long x0), .second, .val (.long x1), .second, .val (.long x2), .second, .val (.long x3), .second, .val (.int x4), .val (.int (((XT.ushr x4 (2 : Int32)) &&& (63 : Int32)) % (63 : Int32))), .val (.int (((XT.ushr x4 (8 : Int32)) &&& (63 : Int32)) % (63 : Int32))), .val (.int (own_f0_1 x0 x1 x2 x3 x4)), .val (.int (own_f0_2 x0 x1 x2 x3 x4)), .val (.long (own_f0_3 x0 x1 x2 x3 x4)), .second, .val (.long (own_f0_4 x0 x1 x2 x3 x4)), .second, .val (.long (own_f0_5 x0 x1 x2 x3 x4)), .second, .val (.long (own_f0_6 x0 x1 x2 x3 x4)), .second, .unset] []))
                refine own_Goes.step (fun t k => XT.lload X0.here hx rfl (hb hby at_141) rfl k) ?_
                show own_Goes p e below s (own_F0 Z x0 x1 x2 x3 x4 n0 h0) room_1.cells room_1.slots (s₁.setTop (mkF m 143 #[.val (.long x0), .second, .val (.long x1), .second, .val (.long x2), .second, .val (.long x3), .second, .val (.int x4), .val (.int (((XT.ushr x4 (2 : Int32)) &&& (63 : Int32)) % (63 : Int32))), .val (.int (((XT.ushr x4 (8 : Int32)) &&& (63 : Int32)) % (63 : Int32))), .val (.int (own_f0_1 x0 x1 x2 x3 x4)), .val (.int (own_f0_2 x0 x1 x2 x3 x4)), .val (.long (own_f0_3 x0 x1 x2 x3 x4)), .second, .val (.long (own_f0_4 x0 x1 x2 x3 x4)), .second, .val (.long (own_f0_5 x0 x1 x2 x3 x4)), .second, .val (.long (own_f0_6 x0 x1 x2 x3 x4)), .second, .unset] [(.long (own_f0_3 x0 x1 x2 x3 x4))]))
                refine own_Goes.step (fun t k => XT.lload X0.here hx rfl (hb hby at_143) rfl k) ?_
                show own_Goes p e below s (own_F0 Z x0 x1 x2 x3 x4 n0 h0) room_1.cells room_1.slots (s₁.setTop (mkF m 145 #[.val (.long x0), .second, .val (.long x1), .second, .val (.long x2), .second, .val (.long x3), .second, .val (.int x4), .val (.int (((XT.ushr x4 (2 : Int32)) &&& (63 : Int32)) % (63 : Int32))), .val (.int (((XT.ushr x4 (8 : Int32)) &&& (63 : Int32)) % (63 : Int32))), .val (.int (own_f0_1 x0 x1 x2 x3 x4)), .val (.int (own_f0_2 x0 x1 x2 x3 x4)), .val (.long (own_f0_3 x0 x1 x2 x3 x4)), .second, .val (.long (own_f0_4 x0 x1 x2 x3 x4)), .second, .val (.long (own_f0_5 x0 x1 x2 x3 x4)), .second, .val (.long (own_f0_6 x0 x1 x2 x3 x4)), .second, .unset] [(.long (own_f0_4 x0 x1 x2 x3 x4)), (.long (own_f0_3 x0 x1 x2 x3 x4))]))
                refine own_Goes.step (fun t k => XT.lload X0.here hx rfl (hb hby at_145) rfl k) ?_
                show own_Goes p e below s (own_F0 Z x0 x1 x2 x3 x4 n0 h0) room_1.cells room_1.slots (s₁.setTop (mkF m 147 #[.val (.long x0), .second, .val (.long x1), .second, .val (.long x2), .second, .val (.long x3), .second, .val (.int x4), .val (.int (((XT.ushr x4 (2 : Int32)) &&& (63 : Int32)) % (63 : Int32))), .val (.int (((XT.ushr x4 (8 : Int32)) &&& (63 : Int32)) % (63 : Int32))), .val (.int (own_f0_1 x0 x1 x2 x3 x4)), .val (.int (own_f0_2 x0 x1 x2 x3 x4)), .val (.long (own_f0_3 x0 x1 x2 x3 x4)), .second, .val (.long (own_f0_4 x0 x1 x2 x3 x4)), .second, .val (.long (own_f0_5 x0 x1 x2 x3 x4)), .second, .val (.long (own_f0_6 x0 x1 x2 x3 x4)), .second, .unset] [(.long (own_f0_5 x0 x1 x2 x3 x4)), (.long (own_f0_4 x0 x1 x2 x3 x4)), (.long (own_f0_3 x0 x1 x2 x3 x4))]))
                refine own_Goes.step (fun t k => XT.lload X0.here hx rfl (hb hby at_147) rfl k) ?_
                show own_Goes p e below s (own_F0 Z x0 x1 x2 x3 x4 n0 h0) room_1.cells room_1.slots (s₁.setTop (mkF m 149 #[.val (.long x0), .second, .val (.long x1), .second, .val (.long x2), .second, .val (.long x3), .second, .val (.int x4), .val (.int (((XT.ushr x4 (2 : Int32)) &&& (63 : Int32)) % (63 : Int32))), .val (.int (((XT.ushr x4 (8 : Int32)) &&& (63 : Int32)) % (63 : Int32))), .val (.int (own_f0_1 x0 x1 x2 x3 x4)), .val (.int (own_f0_2 x0 x1 x2 x3 x4)), .val (.long (own_f0_3 x0 x1 x2 x3 x4)), .second, .val (.long (own_f0_4 x0 x1 x2 x3 x4)), .second, .val (.long (own_f0_5 x0 x1 x2 x3 x4)), .second, .val (.long (own_f0_6 x0 x1 x2 x3 x4)), .second, .unset] [(.long (own_f0_6 x0 x1 x2 x3 x4)), (.long (own_f0_5 x0 x1 x2 x3 x4)), (.long (own_f0_4 x0 x1 x2 x3 x4)), (.long (own_f0_3 x0 x1 x2 x3 x4))]))
                obtain ⟨w7, T7, L7, q7, Y7, st7⟩ := own_stat X0 hx hZ e0 hown (hw _ (List.mem_of_getElem? (i := 0) rfl)) (hw _ (List.mem_of_getElem? (i := 1) rfl)) (hw _ (List.mem_of_getElem? (i := 2) rfl)) (hw _ (List.mem_of_getElem? (i := 3) rfl)) (by decide) (own_m1 l Z a0 hw [] (own_f0_3 x0 x1 x2 x3 x4) (own_f0_4 x0 x1 x2 x3 x4) (own_f0_5 x0 x1 x2 x3 x4) (own_f0_6 x0 x1 x2 x3 x4) h0 ) (by decide) (W := 0) (by decide) (by decide) (by decide) (g := (mkF m 149 #[.val (.long x0), .second, .val (.long x1), .second, .val (.long x2), .second, .val (.long x3), .second, .val (.int x4), .val (.int (((XT.ushr x4 (2 : Int32)) &&& (63 : Int32)) % (63 : Int32))), .val (.int (((XT.ushr x4 (8 : Int32)) &&& (63 : Int32)) % (63 : Int32))), .val (.int (own_f0_1 x0 x1 x2 x3 x4)), .val (.int (own_f0_2 x0 x1 x2 x3 x4)), .val (.long (own_f0_3 x0 x1 x2 x3 x4)), .second, .val (.long (own_f0_4 x0 x1 x2 x3 x4)), .second, .val (.long (own_f0_5 x0 x1 x2 x3 x4)), .second, .val (.long (own_f0_6 x0 x1 x2 x3 x4)), .second, .unset] [(.long (own_f0_6 x0 x1 x2 x3 x4)), (.long (own_f0_5 x0 x1 x2 x3 x4)), (.long (own_f0_4 x0 x1 x2 x3 x4)), (.long (own_f0_3 x0 x1 x2 x3 x4))])) rfl (by rw [hml]; rfl) (argsL := [(.long (own_f0_3 x0 x1 x2 x3 x4)), (.long (own_f0_4 x0 x1 x2 x3 x4)), (.long (own_f0_5 x0 x1 x2 x3 x4)), (.long (own_f0_6 x0 x1 x2 x3 x4))]) (rest := []) (lenOf pd_1 rfl) rfl (by show 2 * 0 + _ ≤ _; exact Nat.le_of_eq rfl) (hb hby at_149)
                obtain ⟨e7, X7⟩ := own_clean q7 Y7 rfl rfl
                obtain ⟨rfl, -, -⟩ := q7
                refine own_Goes.step st7 ?_
                show own_Goes p e below s (own_F0 Z x0 x1 x2 x3 x4 n0 h0) room_1.cells room_1.slots (T7.setTop (mkF m 152 #[.val (.long x0), .second, .val (.long x1), .second, .val (.long x2), .second, .val (.long x3), .second, .val (.int x4), .val (.int (((XT.ushr x4 (2 : Int32)) &&& (63 : Int32)) % (63 : Int32))), .val (.int (((XT.ushr x4 (8 : Int32)) &&& (63 : Int32)) % (63 : Int32))), .val (.int (own_f0_1 x0 x1 x2 x3 x4)), .val (.int (own_f0_2 x0 x1 x2 x3 x4)), .val (.long (own_f0_3 x0 x1 x2 x3 x4)), .second, .val (.long (own_f0_4 x0 x1 x2 x3 x4)), .second, .val (.long (own_f0_5 x0 x1 x2 x3 x4)), .second, .val (.long (own_f0_6 x0 x1 x2 x3 x4)), .second, .unset] [(.int (own_f1 (own_f0_3 x0 x1 x2 x3 x4) (own_f0_4 x0 x1 x2 x3 x4) (own_f0_5 x0 x1 x2 x3 x4) (own_f0_6 x0 x1 x2 x3 x4)))]))
                refine own_Goes.step (fun t k => XS.istore X7.here hx rfl (hb hby at_152) rfl (l' := #[.val (.long x0), .second, .val (.long x1), .second, .val (.long x2), .second, .val (.long x3), .second, .val (.int x4), .val (.int (((XT.ushr x4 (2 : Int32)) &&& (63 : Int32)) % (63 : Int32))), .val (.int (((XT.ushr x4 (8 : Int32)) &&& (63 : Int32)) % (63 : Int32))), .val (.int (own_f0_1 x0 x1 x2 x3 x4)), .val (.int (own_f0_2 x0 x1 x2 x3 x4)), .val (.long (own_f0_3 x0 x1 x2 x3 x4)), .second, .val (.long (own_f0_4 x0 x1 x2 x3 x4)), .second, .val (.long (own_f0_5 x0 x1 x2 x3 x4)), .second, .val (.long (own_f0_6 x0 x1 x2 x3 x4)), .second, .val (.int (own_f0_7 x0 x1 x2 x3 x4))]) rfl k) ?_
                show own_Goes p e below s (own_F0 Z x0 x1 x2 x3 x4 n0 h0) room_1.cells room_1.slots (T7.setTop (mkF m 154 #[.val (.long x0), .second, .val (.long x1), .second, .val (.long x2), .second, .val (.long x3), .second, .val (.int x4), .val (.int (((XT.ushr x4 (2 : Int32)) &&& (63 : Int32)) % (63 : Int32))), .val (.int (((XT.ushr x4 (8 : Int32)) &&& (63 : Int32)) % (63 : Int32))), .val (.int (own_f0_1 x0 x1 x2 x3 x4)), .val (.int (own_f0_2 x0 x1 x2 x3 x4)), .val (.long (own_f0_3 x0 x1 x2 x3 x4)), .second, .val (.long (own_f0_4 x0 x1 x2 x3 x4)), .second, .val (.long (own_f0_5 x0 x1 x2 x3 x4)), .second, .val (.long (own_f0_6 x0 x1 x2 x3 x4)), .second, .val (.int (own_f0_7 x0 x1 x2 x3 x4))] []))
                refine own_Goes.step (fun t k => XS.iload X7.here hx rfl (hb hby at_154) rfl k) ?_
                show own_Goes p e below s (own_F0 Z x0 x1 x2 x3 x4 n0 h0) room_1.cells room_1.slots (T7.setTop (mkF m 156 #[.val (.long x0), .second, .val (.long x1), .second, .val (.long x2), .second, .val (.long x3), .second, .val (.int x4), .val (.int (((XT.ushr x4 (2 : Int32)) &&& (63 : Int32)) % (63 : Int32))), .val (.int (((XT.ushr x4 (8 : Int32)) &&& (63 : Int32)) % (63 : Int32))), .val (.int (own_f0_1 x0 x1 x2 x3 x4)), .val (.int (own_f0_2 x0 x1 x2 x3 x4)), .val (.long (own_f0_3 x0 x1 x2 x3 x4)), .second, .val (.long (own_f0_4 x0 x1 x2 x3 x4)), .second, .val (.long (own_f0_5 x0 x1 x2 x3 x4)), .second, .val (.long (own_f0_6 x0 x1 x2 x3 x4)), .second, .val (.int (own_f0_7 x0 x1 x2 x3 x4))] [(.int (own_f0_7 x0 x1 x2 x3 x4))]))
                obtain ⟨w8, T8, L8, q8, Y8, st8⟩ := own_stat X7 hx hZ e7 hown (hw _ (List.mem_of_getElem? (i := 8) rfl)) (hw _ (List.mem_of_getElem? (i := 9) rfl)) (hw _ (List.mem_of_getElem? (i := 10) rfl)) (hw _ (List.mem_of_getElem? (i := 11) rfl)) (by decide) (own_m3 l Z a0 hw [] (own_f0_7 x0 x1 x2 x3 x4) h0 ) (by decide) (W := 0) (by decide) (by decide) (by decide) (g := (mkF m 156 #[.val (.long x0), .second, .val (.long x1), .second, .val (.long x2), .second, .val (.long x3), .second, .val (.int x4), .val (.int (((XT.ushr x4 (2 : Int32)) &&& (63 : Int32)) % (63 : Int32))), .val (.int (((XT.ushr x4 (8 : Int32)) &&& (63 : Int32)) % (63 : Int32))), .val (.int (own_f0_1 x0 x1 x2 x3 x4)), .val (.int (own_f0_2 x0 x1 x2 x3 x4)), .val (.long (own_f0_3 x0 x1 x2 x3 x4)), .second, .val (.long (own_f0_4 x0 x1 x2 x3 x4)), .second, .val (.long (own_f0_5 x0 x1 x2 x3 x4)), .second, .val (.long (own_f0_6 x0 x1 x2 x3 x4)), .second, .val (.int (own_f0_7 x0 x1 x2 x3 x4))] [(.int (own_f0_7 x0 x1 x2 x3 x4))])) rfl (by rw [hml]; rfl) (argsL := [(.int (own_f0_7 x0 x1 x2 x3 x4))]) (rest := []) (lenOf pd_3 rfl) rfl (by show 2 * 0 + _ ≤ _; exact Nat.le_of_eq rfl) (hb hby at_156)
                obtain ⟨e8, X8⟩ := own_clean q8 Y8 rfl rfl
                obtain ⟨rfl, -, -⟩ := q8
                refine own_Goes.step st8 ?_
                show own_Goes p e below s (own_F0 Z x0 x1 x2 x3 x4 n0 h0) room_1.cells room_1.slots (T8.setTop (mkF m 159 #[.val (.long x0), .second, .val (.long x1), .second, .val (.long x2), .second, .val (.long x3), .second, .val (.int x4), .val (.int (((XT.ushr x4 (2 : Int32)) &&& (63 : Int32)) % (63 : Int32))), .val (.int (((XT.ushr x4 (8 : Int32)) &&& (63 : Int32)) % (63 : Int32))), .val (.int (own_f0_1 x0 x1 x2 x3 x4)), .val (.int (own_f0_2 x0 x1 x2 x3 x4)), .val (.long (own_f0_3 x0 x1 x2 x3 x4)), .second, .val (.long (own_f0_4 x0 x1 x2 x3 x4)), .second, .val (.long (own_f0_5 x0 x1 x2 x3 x4)), .second, .val (.long (own_f0_6 x0 x1 x2 x3 x4)), .second, .val (.int (own_f0_7 x0 x1 x2 x3 x4))] [(.int (own_f3 (own_f0_7 x0 x1 x2 x3 x4)))]))
                refine own_Goes.step (fun t k => XS.iload X8.here hx rfl (hb hby at_159) rfl k) ?_
                show own_Goes p e below s (own_F0 Z x0 x1 x2 x3 x4 n0 h0) room_1.cells room_1.slots (T8.setTop (mkF m 161 #[.val (.long x0), .second, .val (.long x1), .second, .val (.long x2), .second, .val (.long x3), .second, .val (.int x4), .val (.int (((XT.ushr x4 (2 : Int32)) &&& (63 : Int32)) % (63 : Int32))), .val (.int (((XT.ushr x4 (8 : Int32)) &&& (63 : Int32)) % (63 : Int32))), .val (.int (own_f0_1 x0 x1 x2 x3 x4)), .val (.int (own_f0_2 x0 x1 x2 x3 x4)), .val (.long (own_f0_3 x0 x1 x2 x3 x4)), .second, .val (.long (own_f0_4 x0 x1 x2 x3 x4)), .second, .val (.long (own_f0_5 x0 x1 x2 x3 x4)), .second, .val (.long (own_f0_6 x0 x1 x2 x3 x4)), .second, .val (.int (own_f0_7 x0 x1 x2 x3 x4))] [(.int (own_f0_1 x0 x1 x2 x3 x4)), (.int (own_f3 (own_f0_7 x0 x1 x2 x3 x4)))]))
                refine own_Goes.step (fun t k => XS.iload X8.here hx rfl (hb hby at_161) rfl k) ?_
                show own_Goes p e below s (own_F0 Z x0 x1 x2 x3 x4 n0 h0) room_1.cells room_1.slots (T8.setTop (mkF m 163 #[.val (.long x0), .second, .val (.long x1), .second, .val (.long x2), .second, .val (.long x3), .second, .val (.int x4), .val (.int (((XT.ushr x4 (2 : Int32)) &&& (63 : Int32)) % (63 : Int32))), .val (.int (((XT.ushr x4 (8 : Int32)) &&& (63 : Int32)) % (63 : Int32))), .val (.int (own_f0_1 x0 x1 x2 x3 x4)), .val (.int (own_f0_2 x0 x1 x2 x3 x4)), .val (.long (own_f0_3 x0 x1 x2 x3 x4)), .second, .val (.long (own_f0_4 x0 x1 x2 x3 x4)), .second, .val (.long (own_f0_5 x0 x1 x2 x3 x4)), .second, .val (.long (own_f0_6 x0 x1 x2 x3 x4)), .second, .val (.int (own_f0_7 x0 x1 x2 x3 x4))] [(.int (own_f0_2 x0 x1 x2 x3 x4)), (.int (own_f0_1 x0 x1 x2 x3 x4)), (.int (own_f3 (own_f0_7 x0 x1 x2 x3 x4)))]))
                refine own_Goes.step (fun t k => XT.lload X8.here hx rfl (hb hby at_163) rfl k) ?_
                show own_Goes p e below s (own_F0 Z x0 x1 x2 x3 x4 n0 h0) room_1.cells room_1.slots (T8.setTop (mkF m 165 #[.val (.long x0), .second, .val (.long x1), .second, .val (.long x2), .second, .val (.long x3), .second, .val (.int x4), .val (.int (((XT.ushr x4 (2 : Int32)) &&& (63 : Int32)) % (63 : Int32))), .val (.int (((XT.ushr x4 (8 : Int32)) &&& (63 : Int32)) % (63 : Int32))), .val (.int (own_f0_1 x0 x1 x2 x3 x4)), .val (.int (own_f0_2 x0 x1 x2 x3 x4)), .val (.long (own_f0_3 x0 x1 x2 x3 x4)), .second, .val (.long (own_f0_4 x0 x1 x2 x3 x4)), .second, .val (.long (own_f0_5 x0 x1 x2 x3 x4)), .second, .val (.long (own_f0_6 x0 x1 x2 x3 x4)), .second, .val (.int (own_f0_7 x0 x1 x2 x3 x4))] [(.long (own_f0_3 x0 x1 x2 x3 x4)), (.int (own_f0_2 x0 x1 x2 x3 x4)), (.int (own_f0_1 x0 x1 x2 x3 x4)), (.int (own_f3 (own_f0_7 x0 x1 x2 x3 x4)))]))
                refine own_Goes.step (fun t k => XT.lload X8.here hx rfl (hb hby at_165) rfl k) ?_
                show own_Goes p e below s (own_F0 Z x0 x1 x2 x3 x4 n0 h0) room_1.cells room_1.slots (T8.setTop (mkF m 167 #[.val (.long x0), .second, .val (.long x1), .second, .val (.long x2), .second, .val (.long x3), .second, .val (.int x4), .val (.int (((XT.ushr x4 (2 : Int32)) &&& (63 : Int32)) % (63 : Int32))), .val (.int (((XT.ushr x4 (8 : Int32)) &&& (63 : Int32)) % (63 : Int32))), .val (.int (own_f0_1 x0 x1 x2 x3 x4)), .val (.int (own_f0_2 x0 x1 x2 x3 x4)), .val (.long (own_f0_3 x0 x1 x2 x3 x4)), .second, .val (.long (own_f0_4 x0 x1 x2 x3 x4)), .second, .val (.long (own_f0_5 x0 x1 x2 x3 x4)), .second, .val (.long (own_f0_6 x0 x1 x2 x3 x4)), .second, .val (.int (own_f0_7 x0 x1 x2 x3 x4))] [(.long (own_f0_4 x0 x1 x2 x3 x4)), (.long (own_f0_3 x0 x1 x2 x3 x4)), (.int (own_f0_2 x0 x1 x2 x3 x4)), (.int (own_f0_1 x0 x1 x2 x3 x4)), (.int (own_f3 (own_f0_7 x0 x1 x2 x3 x4)))]))
                refine own_Goes.step (fun t k => XT.lload X8.here hx rfl (hb hby at_167) rfl k) ?_
                show own_Goes p e below s (own_F0 Z x0 x1 x2 x3 x4 n0 h0) room_1.cells room_1.slots (T8.setTop (mkF m 169 #[.val (.long x0), .second, .val (.long x1), .second, .val (.long x2), .second, .val (.long x3), .second, .val (.int x4), .val (.int (((XT.ushr x4 (2 : Int32)) &&& (63 : Int32)) % (63 : Int32))), .val (.int (((XT.ushr x4 (8 : Int32)) &&& (63 : Int32)) % (63 : Int32))), .val (.int (own_f0_1 x0 x1 x2 x3 x4)), .val (.int (own_f0_2 x0 x1 x2 x3 x4)), .val (.long (own_f0_3 x0 x1 x2 x3 x4)), .second, .val (.long (own_f0_4 x0 x1 x2 x3 x4)), .second, .val (.long (own_f0_5 x0 x1 x2 x3 x4)), .second, .val (.long (own_f0_6 x0 x1 x2 x3 x4)), .second, .val (.int (own_f0_7 x0 x1 x2 x3 x4))] [(.long (own_f0_5 x0 x1 x2 x3 x4)), (.long (own_f0_4 x0 x1 x2 x3 x4)), (.long (own_f0_3 x0 x1 x2 x3 x4)), (.int (own_f0_2 x0 x1 x2 x3 x4)), (.int (own_f0_1 x0 x1 x2 x3 x4)), (.int (own_f3 (own_f0_7 x0 x1 x2 x3 x4)))]))
                refine own_Goes.step (fun t k => XT.lload X8.here hx rfl (hb hby at_169) rfl k) ?_
                show own_Goes p e below s (own_F0 Z x0 x1 x2 x3 x4 n0 h0) room_1.cells room_1.slots (T8.setTop (mkF m 171 #[.val (.long x0), .second, .val (.long x1), .second, .val (.long x2), .second, .val (.long x3), .second, .val (.int x4), .val (.int (((XT.ushr x4 (2 : Int32)) &&& (63 : Int32)) % (63 : Int32))), .val (.int (((XT.ushr x4 (8 : Int32)) &&& (63 : Int32)) % (63 : Int32))), .val (.int (own_f0_1 x0 x1 x2 x3 x4)), .val (.int (own_f0_2 x0 x1 x2 x3 x4)), .val (.long (own_f0_3 x0 x1 x2 x3 x4)), .second, .val (.long (own_f0_4 x0 x1 x2 x3 x4)), .second, .val (.long (own_f0_5 x0 x1 x2 x3 x4)), .second, .val (.long (own_f0_6 x0 x1 x2 x3 x4)), .second, .val (.int (own_f0_7 x0 x1 x2 x3 x4))] [(.long (own_f0_6 x0 x1 x2 x3 x4)), (.long (own_f0_5 x0 x1 x2 x3 x4)), (.long (own_f0_4 x0 x1 x2 x3 x4)), (.long (own_f0_3 x0 x1 x2 x3 x4)), (.int (own_f0_2 x0 x1 x2 x3 x4)), (.int (own_f0_1 x0 x1 x2 x3 x4)), (.int (own_f3 (own_f0_7 x0 x1 x2 x3 x4)))]))
                obtain ⟨w9, T9, L9, q9, Y9, st9⟩ := own_stat X8 hx hZ e8 hown (hw _ (List.mem_of_getElem? (i := 12) rfl)) (hw _ (List.mem_of_getElem? (i := 13) rfl)) (hw _ (List.mem_of_getElem? (i := 10) rfl)) (hw _ (List.mem_of_getElem? (i := 14) rfl)) (by decide) (own_m4 l Z a0 hw [] (own_f0_1 x0 x1 x2 x3 x4) (own_f0_2 x0 x1 x2 x3 x4) (own_f0_3 x0 x1 x2 x3 x4) (own_f0_4 x0 x1 x2 x3 x4) (own_f0_5 x0 x1 x2 x3 x4) (own_f0_6 x0 x1 x2 x3 x4) h0 (own_d1 x0 x1 x2 x3 x4) (own_d2 x0 x1 x2 x3 x4)) (by decide) (W := 1) (by decide) (by decide) (by decide) (g := (mkF m 171 #[.val (.long x0), .second, .val (.long x1), .second, .val (.long x2), .second, .val (.long x3), .second, .val (.int x4), .val (.int (((XT.ushr x4 (2 : Int32)) &&& (63 : Int32)) % (63 : Int32))), .val (.int (((XT.ushr x4 (8 : Int32)) &&& (63 : Int32)) % (63 : Int32))), .val (.int (own_f0_1 x0 x1 x2 x3 x4)), .val (.int (own_f0_2 x0 x1 x2 x3 x4)), .val (.long (own_f0_3 x0 x1 x2 x3 x4)), .second, .val (.long (own_f0_4 x0 x1 x2 x3 x4)), .second, .val (.long (own_f0_5 x0 x1 x2 x3 x4)), .second, .val (.long (own_f0_6 x0 x1 x2 x3 x4)), .second, .val (.int (own_f0_7 x0 x1 x2 x3 x4))] [(.long (own_f0_6 x0 x1 x2 x3 x4)), (.long (own_f0_5 x0 x1 x2 x3 x4)), (.long (own_f0_4 x0 x1 x2 x3 x4)), (.long (own_f0_3 x0 x1 x2 x3 x4)), (.int (own_f0_2 x0 x1 x2 x3 x4)), (.int (own_f0_1 x0 x1 x2 x3 x4)), (.int (own_f3 (own_f0_7 x0 x1 x2 x3 x4)))])) rfl (by rw [hml]; rfl) (argsL := [(.int (own_f0_1 x0 x1 x2 x3 x4)), (.int (own_f0_2 x0 x1 x2 x3 x4)), (.long (own_f0_3 x0 x1 x2 x3 x4)), (.long (own_f0_4 x0 x1 x2 x3 x4)), (.long (own_f0_5 x0 x1 x2 x3 x4)), (.long (own_f0_6 x0 x1 x2 x3 x4))]) (rest := [(.int (own_f3 (own_f0_7 x0 x1 x2 x3 x4)))]) (lenOf pd_4 rfl) rfl (by show 2 * 0 + _ ≤ _; exact Nat.le_of_eq rfl) (hb hby at_171)
                obtain ⟨e9, X9⟩ := own_clean q9 Y9 rfl rfl
                obtain ⟨rfl, -, -⟩ := q9
                refine own_Goes.step st9 ?_
                show own_Goes p e below s (own_F0 Z x0 x1 x2 x3 x4 n0 h0) room_1.cells room_1.slots (T9.setTop (mkF m 174 #[.val (.long x0), .second, .val (.long x1), .second, .val (.long x2), .second, .val (.long x3), .second, .val (.int x4), .val (.int (((XT.ushr x4 (2 : Int32)) &&& (63 : Int32)) % (63 : Int32))), .val (.int (((XT.ushr x4 (8 : Int32)) &&& (63 : Int32)) % (63 : Int32))), .val (.int (own_f0_1 x0 x1 x2 x3 x4)), .val (.int (own_f0_2 x0 x1 x2 x3 x4)), .val (.long (own_f0_3 x0 x1 x2 x3 x4)), .second, .val (.long (own_f0_4 x0 x1 x2 x3 x4)), .second, .val (.long (own_f0_5 x0 x1 x2 x3 x4)), .second, .val (.long (own_f0_6 x0 x1 x2 x3 x4)), .second, .val (.int (own_f0_7 x0 x1 x2 x3 x4))] [(.int (own_f4 (own_f0_1 x0 x1 x2 x3 x4) (own_f0_2 x0 x1 x2 x3 x4) (own_f0_3 x0 x1 x2 x3 x4) (own_f0_4 x0 x1 x2 x3 x4) (own_f0_5 x0 x1 x2 x3 x4) (own_f0_6 x0 x1 x2 x3 x4))), (.int (own_f3 (own_f0_7 x0 x1 x2 x3 x4)))]))
                by_cases hc10 : (own_f3 (own_f0_7 x0 x1 x2 x3 x4)) = (own_f4 (own_f0_1 x0 x1 x2 x3 x4) (own_f0_2 x0 x1 x2 x3 x4) (own_f0_3 x0 x1 x2 x3 x4) (own_f0_4 x0 x1 x2 x3 x4) (own_f0_5 x0 x1 x2 x3 x4) (own_f0_6 x0 x1 x2 x3 x4))
                · refine own_Goes.step (fun t k => XS.icmpNo X9.here hx rfl (hb hby at_174) rfl (XT.ii_ne_f hc10) k) ?_
                  show own_Goes p e below s (own_F0 Z x0 x1 x2 x3 x4 n0 h0) room_1.cells room_1.slots (T9.setTop (mkF m 177 #[.val (.long x0), .second, .val (.long x1), .second, .val (.long x2), .second, .val (.long x3), .second, .val (.int x4), .val (.int (((XT.ushr x4 (2 : Int32)) &&& (63 : Int32)) % (63 : Int32))), .val (.int (((XT.ushr x4 (8 : Int32)) &&& (63 : Int32)) % (63 : Int32))), .val (.int (own_f0_1 x0 x1 x2 x3 x4)), .val (.int (own_f0_2 x0 x1 x2 x3 x4)), .val (.long (own_f0_3 x0 x1 x2 x3 x4)), .second, .val (.long (own_f0_4 x0 x1 x2 x3 x4)), .second, .val (.long (own_f0_5 x0 x1 x2 x3 x4)), .second, .val (.long (own_f0_6 x0 x1 x2 x3 x4)), .second, .val (.int (own_f0_7 x0 x1 x2 x3 x4))] []))
                  refine own_Goes.step (fun t k => XT.iconstV X9.here hx rfl (1 : Int32) (hb hby at_177) (by decide) k) ?_
                  show own_Goes p e below s (own_F0 Z x0 x1 x2 x3 x4 n0 h0) room_1.cells room_1.slots (T9.setTop (mkF m 178 #[.val (.long x0), .second, .val (.long x1), .second, .val (.long x2), .second, .val (.long x3), .second, .val (.int x4), .val (.int (((XT.ushr x4 (2 : Int32)) &&& (63 : Int32)) % (63 : Int32))), .val (.int (((XT.ushr x4 (8 : Int32)) &&& (63 : Int32)) % (63 : Int32))), .val (.int (own_f0_1 x0 x1 x2 x3 x4)), .val (.int (own_f0_2 x0 x1 x2 x3 x4)), .val (.long (own_f0_3 x0 x1 x2 x3 x4)), .second, .val (.long (own_f0_4 x0 x1 x2 x3 x4)), .second, .val (.long (own_f0_5 x0 x1 x2 x3 x4)), .second, .val (.long (own_f0_6 x0 x1 x2 x3 x4)), .second, .val (.int (own_f0_7 x0 x1 x2 x3 x4))] [(.int (1 : Int32))]))
                  refine own_Goes.step (fun t k => XS.goto X9.here hx rfl (pc0 := 178) (pc' := 182) rfl (hb hby at_178) (by decide) (by decide) k) ?_
                  show own_Goes p e below s (own_F0 Z x0 x1 x2 x3 x4 n0 h0) room_1.cells room_1.slots (T9.setTop (mkF m 182 #[.val (.long x0), .second, .val (.long x1), .second, .val (.long x2), .second, .val (.long x3), .second, .val (.int x4), .val (.int (((XT.ushr x4 (2 : Int32)) &&& (63 : Int32)) % (63 : Int32))), .val (.int (((XT.ushr x4 (8 : Int32)) &&& (63 : Int32)) % (63 : Int32))), .val (.int (own_f0_1 x0 x1 x2 x3 x4)), .val (.int (own_f0_2 x0 x1 x2 x3 x4)), .val (.long (own_f0_3 x0 x1 x2 x3 x4)), .second, .val (.long (own_f0_4 x0 x1 x2 x3 x4)), .second, .val (.long (own_f0_5 x0 x1 x2 x3 x4)), .second, .val (.long (own_f0_6 x0 x1 x2 x3 x4)), .second, .val (.int (own_f0_7 x0 x1 x2 x3 x4))] [(.int (1 : Int32))]))
                  exact own_endN X9 hx Bd.notSynchronized (t := .boolean) Bd.returns (by simp) (hb hby at_182) ⟨(congrArg (fun z => some (Value.int z)) (show (1 : Int32) = own_f0 x0 x1 x2 x3 x4 from by simp only [own_f0, if_pos hc10])), N0⟩ (by decide) (by decide)
                · refine own_Goes.step (fun t k => XS.icmpYes X9.here hx rfl (pc0 := 174) (pc' := 181) rfl (hb hby at_174) rfl (XT.ii_ne_t hc10) (by decide) (by decide) k) ?_
                  show own_Goes p e below s (own_F0 Z x0 x1 x2 x3 x4 n0 h0) room_1.cells room_1.slots (T9.setTop (mkF m 181 #[.val (.long x0), .second, .val (.long x1), .second, .val (.long x2), .second, .val (.long x3), .second, .val (.int x4), .val (.int (((XT.ushr x4 (2 : Int32)) &&& (63 : Int32)) % (63 : Int32))), .val (.int (((XT.ushr x4 (8 : Int32)) &&& (63 : Int32)) % (63 : Int32))), .val (.int (own_f0_1 x0 x1 x2 x3 x4)), .val (.int (own_f0_2 x0 x1 x2 x3 x4)), .val (.long (own_f0_3 x0 x1 x2 x3 x4)), .second, .val (.long (own_f0_4 x0 x1 x2 x3 x4)), .second, .val (.long (own_f0_5 x0 x1 x2 x3 x4)), .second, .val (.long (own_f0_6 x0 x1 x2 x3 x4)), .second, .val (.int (own_f0_7 x0 x1 x2 x3 x4))] []))
                  refine own_Goes.step (fun t k => XT.iconstV X9.here hx rfl (0 : Int32) (hb hby at_181) (by decide) k) ?_
                  show own_Goes p e below s (own_F0 Z x0 x1 x2 x3 x4 n0 h0) room_1.cells room_1.slots (T9.setTop (mkF m 182 #[.val (.long x0), .second, .val (.long x1), .second, .val (.long x2), .second, .val (.long x3), .second, .val (.int x4), .val (.int (((XT.ushr x4 (2 : Int32)) &&& (63 : Int32)) % (63 : Int32))), .val (.int (((XT.ushr x4 (8 : Int32)) &&& (63 : Int32)) % (63 : Int32))), .val (.int (own_f0_1 x0 x1 x2 x3 x4)), .val (.int (own_f0_2 x0 x1 x2 x3 x4)), .val (.long (own_f0_3 x0 x1 x2 x3 x4)), .second, .val (.long (own_f0_4 x0 x1 x2 x3 x4)), .second, .val (.long (own_f0_5 x0 x1 x2 x3 x4)), .second, .val (.long (own_f0_6 x0 x1 x2 x3 x4)), .second, .val (.int (own_f0_7 x0 x1 x2 x3 x4))] [(.int (0 : Int32))]))
                  exact own_endN X9 hx Bd.notSynchronized (t := .boolean) Bd.returns (by simp) (hb hby at_182) ⟨(congrArg (fun z => some (Value.int z)) (show (0 : Int32) = own_f0 x0 x1 x2 x3 x4 from by simp only [own_f0, if_neg hc10])), N0⟩ (by decide) (by decide)
              by_cases hc6 : (own_f0_2 x0 x1 x2 x3 x4) = (0 : Int32)
              · refine own_Goes.step (fun t k => XS.ifYes X0.here hx rfl (pc0 := 118) (pc' := 125) rfl (hb hby at_118) rfl (XT.i0_eq_t hc6) (by decide) (by decide) k) ?_
                show own_Goes p e below s (own_F0 Z x0 x1 x2 x3 x4 n0 h0) room_1.cells room_1.slots (s₁.setTop (mkF m 125 #[.val (.long x0), .second, .val (.long x1), .second, .val (.long x2), .second, .val (.long x3), .second, .val (.int x4), .val (.int (((XT.ushr x4 (2 : Int32)) &&& (63 : Int32)) % (63 : Int32))), .val (.int (((XT.ushr x4 (8 : Int32)) &&& (63 : Int32)) % (63 : Int32))), .val (.int (own_f0_1 x0 x1 x2 x3 x4)), .val (.int (own_f0_2 x0 x1 x2 x3 x4)), .val (.long (own_f0_3 x0 x1 x2 x3 x4)), .second, .val (.long (own_f0_4 x0 x1 x2 x3 x4)), .second, .val (.long (own_f0_5 x0 x1 x2 x3 x4)), .second, .unset, .unset, .unset] []))
                refine own_Goes.step (fun t k => XT.lconstV X0.here hx rfl (1 : Int64) (hb hby at_125) (by decide) k) ?_
                show own_Goes p e below s (own_F0 Z x0 x1 x2 x3 x4 n0 h0) room_1.cells room_1.slots (s₁.setTop (mkF m 126 #[.val (.long x0), .second, .val (.long x1), .second, .val (.long x2), .second, .val (.long x3), .second, .val (.int x4), .val (.int (((XT.ushr x4 (2 : Int32)) &&& (63 : Int32)) % (63 : Int32))), .val (.int (((XT.ushr x4 (8 : Int32)) &&& (63 : Int32)) % (63 : Int32))), .val (.int (own_f0_1 x0 x1 x2 x3 x4)), .val (.int (own_f0_2 x0 x1 x2 x3 x4)), .val (.long (own_f0_3 x0 x1 x2 x3 x4)), .second, .val (.long (own_f0_4 x0 x1 x2 x3 x4)), .second, .val (.long (own_f0_5 x0 x1 x2 x3 x4)), .second, .unset, .unset, .unset] [(.long (1 : Int64))]))
                refine own_Goes.step (fun t k => XT.lload X0.here hx rfl (hb hby at_126) rfl k) ?_
                show own_Goes p e below s (own_F0 Z x0 x1 x2 x3 x4 n0 h0) room_1.cells room_1.slots (s₁.setTop (mkF m 128 #[.val (.long x0), .second, .val (.long x1), .second, .val (.long x2), .second, .val (.long x3), .second, .val (.int x4), .val (.int (((XT.ushr x4 (2 : Int32)) &&& (63 : Int32)) % (63 : Int32))), .val (.int (((XT.ushr x4 (8 : Int32)) &&& (63 : Int32)) % (63 : Int32))), .val (.int (own_f0_1 x0 x1 x2 x3 x4)), .val (.int (own_f0_2 x0 x1 x2 x3 x4)), .val (.long (own_f0_3 x0 x1 x2 x3 x4)), .second, .val (.long (own_f0_4 x0 x1 x2 x3 x4)), .second, .val (.long (own_f0_5 x0 x1 x2 x3 x4)), .second, .unset, .unset, .unset] [(.long x3), (.long (1 : Int64))]))
                refine own_Goes.step (fun t k => X0.ldc2J hx hown (mvT hZ (hw _ (List.mem_of_getElem? (i := 15) rfl))) rfl (hb hby at_128) k) ?_
                show own_Goes p e below s (own_F0 Z x0 x1 x2 x3 x4 n0 h0) room_1.cells room_1.slots (s₁.setTop (mkF m 131 #[.val (.long x0), .second, .val (.long x1), .second, .val (.long x2), .second, .val (.long x3), .second, .val (.int x4), .val (.int (((XT.ushr x4 (2 : Int32)) &&& (63 : Int32)) % (63 : Int32))), .val (.int (((XT.ushr x4 (8 : Int32)) &&& (63 : Int32)) % (63 : Int32))), .val (.int (own_f0_1 x0 x1 x2 x3 x4)), .val (.int (own_f0_2 x0 x1 x2 x3 x4)), .val (.long (own_f0_3 x0 x1 x2 x3 x4)), .second, .val (.long (own_f0_4 x0 x1 x2 x3 x4)), .second, .val (.long (own_f0_5 x0 x1 x2 x3 x4)), .second, .unset, .unset, .unset] [(.long (9223372036854775807 : Int64)), (.long x3), (.long (1 : Int64))]))
                refine own_Goes.step (fun t k => XT.land X0.here hx rfl (hb hby at_131) rfl k) ?_
                show own_Goes p e below s (own_F0 Z x0 x1 x2 x3 x4 n0 h0) room_1.cells room_1.slots (s₁.setTop (mkF m 132 #[.val (.long x0), .second, .val (.long x1), .second, .val (.long x2), .second, .val (.long x3), .second, .val (.int x4), .val (.int (((XT.ushr x4 (2 : Int32)) &&& (63 : Int32)) % (63 : Int32))), .val (.int (((XT.ushr x4 (8 : Int32)) &&& (63 : Int32)) % (63 : Int32))), .val (.int (own_f0_1 x0 x1 x2 x3 x4)), .val (.int (own_f0_2 x0 x1 x2 x3 x4)), .val (.long (own_f0_3 x0 x1 x2 x3 x4)), .second, .val (.long (own_f0_4 x0 x1 x2 x3 x4)), .second, .val (.long (own_f0_5 x0 x1 x2 x3 x4)), .second, .unset, .unset, .unset] [(.long (x3 &&& (9223372036854775807 : Int64))), (.long (1 : Int64))]))
                refine own_Goes.step (fun t k => XT.bipushV X0.here hx rfl (63 : Int32) (hb hby at_132) (by decide) k) ?_
                show own_Goes p e below s (own_F0 Z x0 x1 x2 x3 x4 n0 h0) room_1.cells room_1.slots (s₁.setTop (mkF m 134 #[.val (.long x0), .second, .val (.long x1), .second, .val (.long x2), .second, .val (.long x3), .second, .val (.int x4), .val (.int (((XT.ushr x4 (2 : Int32)) &&& (63 : Int32)) % (63 : Int32))), .val (.int (((XT.ushr x4 (8 : Int32)) &&& (63 : Int32)) % (63 : Int32))), .val (.int (own_f0_1 x0 x1 x2 x3 x4)), .val (.int (own_f0_2 x0 x1 x2 x3 x4)), .val (.long (own_f0_3 x0 x1 x2 x3 x4)), .second, .val (.long (own_f0_4 x0 x1 x2 x3 x4)), .second, .val (.long (own_f0_5 x0 x1 x2 x3 x4)), .second, .unset, .unset, .unset] [(.int (63 : Int32)), (.long (x3 &&& (9223372036854775807 : Int64))), (.long (1 : Int64))]))
                refine own_Goes.step (fun t k => XS.iload X0.here hx rfl (hb hby at_134) rfl k) ?_
                show own_Goes p e below s (own_F0 Z x0 x1 x2 x3 x4 n0 h0) room_1.cells room_1.slots (s₁.setTop (mkF m 136 #[.val (.long x0), .second, .val (.long x1), .second, .val (.long x2), .second, .val (.long x3), .second, .val (.int x4), .val (.int (((XT.ushr x4 (2 : Int32)) &&& (63 : Int32)) % (63 : Int32))), .val (.int (((XT.ushr x4 (8 : Int32)) &&& (63 : Int32)) % (63 : Int32))), .val (.int (own_f0_1 x0 x1 x2 x3 x4)), .val (.int (own_f0_2 x0 x1 x2 x3 x4)), .val (.long (own_f0_3 x0 x1 x2 x3 x4)), .second, .val (.long (own_f0_4 x0 x1 x2 x3 x4)), .second, .val (.long (own_f0_5 x0 x1 x2 x3 x4)), .second, .unset, .unset, .unset] [(.int (((XT.ushr x4 (8 : Int32)) &&& (63 : Int32)) % (63 : Int32))), (.int (63 : Int32)), (.long (x3 &&& (9223372036854775807 : Int64))), (.long (1 : Int64))]))
                refine own_Goes.step (fun t k => XS.isub X0.here hx rfl (hb hby at_136) rfl k) ?_
                show own_Goes p e below s (own_F0 Z x0 x1 x2 x3 x4 n0 h0) room_1.cells room_1.slots (s₁.setTop (mkF m 137 #[.val (.long x0), .second, .val (.long x1), .second, .val (.long x2), .second, .val (.long x3), .second, .val (.int x4), .val (.int (((XT.ushr x4 (2 : Int32)) &&& (63 : Int32)) % (63 : Int32))), .val (.int (((XT.ushr x4 (8 : Int32)) &&& (63 : Int32)) % (63 : Int32))), .val (.int (own_f0_1 x0 x1 x2 x3 x4)), .val (.int (own_f0_2 x0 x1 x2 x3 x4)), .val (.long (own_f0_3 x0 x1 x2 x3 x4)), .second, .val (.long (own_f0_4 x0 x1 x2 x3 x4)), .second, .val (.long (own_f0_5 x0 x1 x2 x3 x4)), .second, .unset, .unset, .unset] [(.int ((63 : Int32) - (((XT.ushr x4 (8 : Int32)) &&& (63 : Int32)) % (63 : Int32)))), (.long (x3 &&& (9223372036854775807 : Int64))), (.long (1 : Int64))]))
                refine own_Goes.step (fun t k => XT.lushr X0.here hx rfl (hb hby at_137) rfl k) ?_
                show own_Goes p e below s (own_F0 Z x0 x1 x2 x3 x4 n0 h0) room_1.cells room_1.slots (s₁.setTop (mkF m 138 #[.val (.long x0), .second, .val (.long x1), .second, .val (.long x2), .second, .val (.long x3), .second, .val (.int x4), .val (.int (((XT.ushr x4 (2 : Int32)) &&& (63 : Int32)) % (63 : Int32))), .val (.int (((XT.ushr x4 (8 : Int32)) &&& (63 : Int32)) % (63 : Int32))), .val (.int (own_f0_1 x0 x1 x2 x3 x4)), .val (.int (own_f0_2 x0 x1 x2 x3 x4)), .val (.long (own_f0_3 x0 x1 x2 x3 x4)), .second, .val (.long (own_f0_4 x0 x1 x2 x3 x4)), .second, .val (.long (own_f0_5 x0 x1 x2 x3 x4)), .second, .unset, .unset, .unset] [(.long (XT.ushrL (x3 &&& (9223372036854775807 : Int64)) ((63 : Int32) - (((XT.ushr x4 (8 : Int32)) &&& (63 : Int32)) % (63 : Int32))))), (.long (1 : Int64))]))
                refine own_Goes.step (fun t k => XT.ladd X0.here hx rfl (hb hby at_138) rfl k) ?_
                show own_Goes p e below s (own_F0 Z x0 x1 x2 x3 x4 n0 h0) room_1.cells room_1.slots (s₁.setTop (mkF m 139 #[.val (.long x0), .second, .val (.long x1), .second, .val (.long x2), .second, .val (.long x3), .second, .val (.int x4), .val (.int (((XT.ushr x4 (2 : Int32)) &&& (63 : Int32)) % (63 : Int32))), .val (.int (((XT.ushr x4 (8 : Int32)) &&& (63 : Int32)) % (63 : Int32))), .val (.int (own_f0_1 x0 x1 x2 x3 x4)), .val (.int (own_f0_2 x0 x1 x2 x3 x4)), .val (.long (own_f0_3 x0 x1 x2 x3 x4)), .second, .val (.long (own_f0_4 x0 x1 x2 x3 x4)), .second, .val (.long (own_f0_5 x0 x1 x2 x3 x4)), .second, .unset, .unset, .unset] [(.long ((1 : Int64) + (XT.ushrL (x3 &&& (9223372036854775807 : Int64)) ((63 : Int32) - (((XT.ushr x4 (8 : Int32)) &&& (63 : Int32)) % (63 : Int32))))))]))
                rw [show (own_f0_6 x0 x1 x2 x3 x4) = ((1 : Int64) + (XT.ushrL (x3 &&& (9223372036854775807 : Int64)) ((63 : Int32) - (((XT.ushr x4 (8 : Int32)) &&& (63 : Int32)) % (63 : Int32))))) from by simp only [own_f0_6, if_pos hc6]] at J11
                exact J11
              · refine own_Goes.step (fun t k => XS.ifNo X0.here hx rfl (hb hby at_118) rfl (XT.i0_eq_f hc6) k) ?_
                show own_Goes p e below s (own_F0 Z x0 x1 x2 x3 x4 n0 h0) room_1.cells room_1.slots (s₁.setTop (mkF m 121 #[.val (.long x0), .second, .val (.long x1), .second, .val (.long x2), .second, .val (.long x3), .second, .val (.int x4), .val (.int (((XT.ushr x4 (2 : Int32)) &&& (63 : Int32)) % (63 : Int32))), .val (.int (((XT.ushr x4 (8 : Int32)) &&& (63 : Int32)) % (63 : Int32))), .val (.int (own_f0_1 x0 x1 x2 x3 x4)), .val (.int (own_f0_2 x0 x1 x2 x3 x4)), .val (.long (own_f0_3 x0 x1 x2 x3 x4)), .second, .val (.long (own_f0_4 x0 x1 x2 x3 x4)), .second, .val (.long (own_f0_5 x0 x1 x2 x3 x4)), .second, .unset, .unset, .unset] []))
                refine own_Goes.step (fun t k => XT.lconstV X0.here hx rfl (0 : Int64) (hb hby at_121) (by decide) k) ?_
                show own_Goes p e below s (own_F0 Z x0 x1 x2 x3 x4 n0 h0) room_1.cells room_1.slots (s₁.setTop (mkF m 122 #[.val (.long x0), .second, .val (.long x1), .second, .val (.long x2), .second, .val (.long x3), .second, .val (.int x4), .val (.int (((XT.ushr x4 (2 : Int32)) &&& (63 : Int32)) % (63 : Int32))), .val (.int (((XT.ushr x4 (8 : Int32)) &&& (63 : Int32)) % (63 : Int32))), .val (.int (own_f0_1 x0 x1 x2 x3 x4)), .val (.int (own_f0_2 x0 x1 x2 x3 x4)), .val (.long (own_f0_3 x0 x1 x2 x3 x4)), .second, .val (.long (own_f0_4 x0 x1 x2 x3 x4)), .second, .val (.long (own_f0_5 x0 x1 x2 x3 x4)), .second, .unset, .unset, .unset] [(.long (0 : Int64))]))
                refine own_Goes.step (fun t k => XS.goto X0.here hx rfl (pc0 := 122) (pc' := 139) rfl (hb hby at_122) (by decide) (by decide) k) ?_
                show own_Goes p e below s (own_F0 Z x0 x1 x2 x3 x4 n0 h0) room_1.cells room_1.slots (s₁.setTop (mkF m 139 #[.val (.long x0), .second, .val (.long x1), .second, .val (.long x2), .second, .val (.long x3), .second, .val (.int x4), .val (.int (((XT.ushr x4 (2 : Int32)) &&& (63 : Int32)) % (63 : Int32))), .val (.int (((XT.ushr x4 (8 : Int32)) &&& (63 : Int32)) % (63 : Int32))), .val (.int (own_f0_1 x0 x1 x2 x3 x4)), .val (.int (own_f0_2 x0 x1 x2 x3 x4)), .val (.long (own_f0_3 x0 x1 x2 x3 x4)), .second, .val (.long (own_f0_4 x0 x1 x2 x3 x4)), .second, .val (.long (own_f0_5 x0 x1 x2 x3 x4)), .second, .unset, .unset, .unset] [(.long (0 : Int64))]))
                rw [show (own_f0_6 x0 x1 x2 x3 x4) = (0 : Int64) from by simp only [own_f0_6, if_neg hc6]] at J11
                exact J11
            by_cases hc5 : (own_f0_2 x0 x1 x2 x3 x4) = (0 : Int32)
            · refine own_Goes.step (fun t k => XS.ifYes X0.here hx rfl (pc0 := 98) (pc' := 105) rfl (hb hby at_98) rfl (XT.i0_eq_t hc5) (by decide) (by decide) k) ?_
              show own_Goes p e below s (own_F0 Z x0 x1 x2 x3 x4 n0 h0) room_1.cells room_1.slots (s₁.setTop (mkF m 105 #[.val (.long x0), .second, .val (.long x1), .second, .val (.long x2), .second, .val (.long x3), .second, .val (.int x4), .val (.int (((XT.ushr x4 (2 : Int32)) &&& (63 : Int32)) % (63 : Int32))), .val (.int (((XT.ushr x4 (8 : Int32)) &&& (63 : Int32)) % (63 : Int32))), .val (.int (own_f0_1 x0 x1 x2 x3 x4)), .val (.int (own_f0_2 x0 x1 x2 x3 x4)), .val (.long (own_f0_3 x0 x1 x2 x3 x4)), .second, .val (.long (own_f0_4 x0 x1 x2 x3 x4)), .second, .unset, .unset, .unset, .unset, .unset] []))
              refine own_Goes.step (fun t k => XT.lload X0.here hx rfl (hb hby at_105) rfl k) ?_
              show own_Goes p e below s (own_F0 Z x0 x1 x2 x3 x4 n0 h0) room_1.cells room_1.slots (s₁.setTop (mkF m 107 #[.val (.long x0), .second, .val (.long x1), .second, .val (.long x2), .second, .val (.long x3), .second, .val (.int x4), .val (.int (((XT.ushr x4 (2 : Int32)) &&& (63 : Int32)) % (63 : Int32))), .val (.int (((XT.ushr x4 (8 : Int32)) &&& (63 : Int32)) % (63 : Int32))), .val (.int (own_f0_1 x0 x1 x2 x3 x4)), .val (.int (own_f0_2 x0 x1 x2 x3 x4)), .val (.long (own_f0_3 x0 x1 x2 x3 x4)), .second, .val (.long (own_f0_4 x0 x1 x2 x3 x4)), .second, .unset, .unset, .unset, .unset, .unset] [(.long x2)]))
              refine own_Goes.step (fun t k => X0.ldc2J hx hown (mvT hZ (hw _ (List.mem_of_getElem? (i := 15) rfl))) rfl (hb hby at_107) k) ?_
              show own_Goes p e below s (own_F0 Z x0 x1 x2 x3 x4 n0 h0) room_1.cells room_1.slots (s₁.setTop (mkF m 110 #[.val (.long x0), .second, .val (.long x1), .second, .val (.long x2), .second, .val (.long x3), .second, .val (.int x4), .val (.int (((XT.ushr x4 (2 : Int32)) &&& (63 : Int32)) % (63 : Int32))), .val (.int (((XT.ushr x4 (8 : Int32)) &&& (63 : Int32)) % (63 : Int32))), .val (.int (own_f0_1 x0 x1 x2 x3 x4)), .val (.int (own_f0_2 x0 x1 x2 x3 x4)), .val (.long (own_f0_3 x0 x1 x2 x3 x4)), .second, .val (.long (own_f0_4 x0 x1 x2 x3 x4)), .second, .unset, .unset, .unset, .unset, .unset] [(.long (9223372036854775807 : Int64)), (.long x2)]))
              refine own_Goes.step (fun t k => XT.land X0.here hx rfl (hb hby at_110) rfl k) ?_
              show own_Goes p e below s (own_F0 Z x0 x1 x2 x3 x4 n0 h0) room_1.cells room_1.slots (s₁.setTop (mkF m 111 #[.val (.long x0), .second, .val (.long x1), .second, .val (.long x2), .second, .val (.long x3), .second, .val (.int x4), .val (.int (((XT.ushr x4 (2 : Int32)) &&& (63 : Int32)) % (63 : Int32))), .val (.int (((XT.ushr x4 (8 : Int32)) &&& (63 : Int32)) % (63 : Int32))), .val (.int (own_f0_1 x0 x1 x2 x3 x4)), .val (.int (own_f0_2 x0 x1 x2 x3 x4)), .val (.long (own_f0_3 x0 x1 x2 x3 x4)), .second, .val (.long (own_f0_4 x0 x1 x2 x3 x4)), .second, .unset, .unset, .unset, .unset, .unset] [(.long (x2 &&& (9223372036854775807 : Int64)))]))
              refine own_Goes.step (fun t k => XS.iload X0.here hx rfl (hb hby at_111) rfl k) ?_
              show own_Goes p e below s (own_F0 Z x0 x1 x2 x3 x4 n0 h0) room_1.cells room_1.slots (s₁.setTop (mkF m 113 #[.val (.long x0), .second, .val (.long x1), .second, .val (.long x2), .second, .val (.long x3), .second, .val (.int x4), .val (.int (((XT.ushr x4 (2 : Int32)) &&& (63 : Int32)) % (63 : Int32))), .val (.int (((XT.ushr x4 (8 : Int32)) &&& (63 : Int32)) % (63 : Int32))), .val (.int (own_f0_1 x0 x1 x2 x3 x4)), .val (.int (own_f0_2 x0 x1 x2 x3 x4)), .val (.long (own_f0_3 x0 x1 x2 x3 x4)), .second, .val (.long (own_f0_4 x0 x1 x2 x3 x4)), .second, .unset, .unset, .unset, .unset, .unset] [(.int (((XT.ushr x4 (2 : Int32)) &&& (63 : Int32)) % (63 : Int32))), (.long (x2 &&& (9223372036854775807 : Int64)))]))
              refine own_Goes.step (fun t k => XT.lushr X0.here hx rfl (hb hby at_113) rfl k) ?_
              show own_Goes p e below s (own_F0 Z x0 x1 x2 x3 x4 n0 h0) room_1.cells room_1.slots (s₁.setTop (mkF m 114 #[.val (.long x0), .second, .val (.long x1), .second, .val (.long x2), .second, .val (.long x3), .second, .val (.int x4), .val (.int (((XT.ushr x4 (2 : Int32)) &&& (63 : Int32)) % (63 : Int32))), .val (.int (((XT.ushr x4 (8 : Int32)) &&& (63 : Int32)) % (63 : Int32))), .val (.int (own_f0_1 x0 x1 x2 x3 x4)), .val (.int (own_f0_2 x0 x1 x2 x3 x4)), .val (.long (own_f0_3 x0 x1 x2 x3 x4)), .second, .val (.long (own_f0_4 x0 x1 x2 x3 x4)), .second, .unset, .unset, .unset, .unset, .unset] [(.long (XT.ushrL (x2 &&& (9223372036854775807 : Int64)) (((XT.ushr x4 (2 : Int32)) &&& (63 : Int32)) % (63 : Int32))))]))
              rw [show (own_f0_5 x0 x1 x2 x3 x4) = (XT.ushrL (x2 &&& (9223372036854775807 : Int64)) (((XT.ushr x4 (2 : Int32)) &&& (63 : Int32)) % (63 : Int32))) from by simp only [own_f0_5, if_pos hc5]] at J12
              exact J12
            · refine own_Goes.step (fun t k => XS.ifNo X0.here hx rfl (hb hby at_98) rfl (XT.i0_eq_f hc5) k) ?_
              show own_Goes p e below s (own_F0 Z x0 x1 x2 x3 x4 n0 h0) room_1.cells room_1.slots (s₁.setTop (mkF m 101 #[.val (.long x0), .second, .val (.long x1), .second, .val (.long x2), .second, .val (.long x3), .second, .val (.int x4), .val (.int (((XT.ushr x4 (2 : Int32)) &&& (63 : Int32)) % (63 : Int32))), .val (.int (((XT.ushr x4 (8 : Int32)) &&& (63 : Int32)) % (63 : Int32))), .val (.int (own_f0_1 x0 x1 x2 x3 x4)), .val (.int (own_f0_2 x0 x1 x2 x3 x4)), .val (.long (own_f0_3 x0 x1 x2 x3 x4)), .second, .val (.long (own_f0_4 x0 x1 x2 x3 x4)), .second, .unset, .unset, .unset, .unset, .unset] []))
              refine own_Goes.step (fun t k => XT.lconstV X0.here hx rfl (1 : Int64) (hb hby at_101) (by decide) k) ?_
              show own_Goes p e below s (own_F0 Z x0 x1 x2 x3 x4 n0 h0) room_1.cells room_1.slots (s₁.setTop (mkF m 102 #[.val (.long x0), .second, .val (.long x1), .second, .val (.long x2), .second, .val (.long x3), .second, .val (.int x4), .val (.int (((XT.ushr x4 (2 : Int32)) &&& (63 : Int32)) % (63 : Int32))), .val (.int (((XT.ushr x4 (8 : Int32)) &&& (63 : Int32)) % (63 : Int32))), .val (.int (own_f0_1 x0 x1 x2 x3 x4)), .val (.int (own_f0_2 x0 x1 x2 x3 x4)), .val (.long (own_f0_3 x0 x1 x2 x3 x4)), .second, .val (.long (own_f0_4 x0 x1 x2 x3 x4)), .second, .unset, .unset, .unset, .unset, .unset] [(.long (1 : Int64))]))
              refine own_Goes.step (fun t k => XS.goto X0.here hx rfl (pc0 := 102) (pc' := 114) rfl (hb hby at_102) (by decide) (by decide) k) ?_
              show own_Goes p e below s (own_F0 Z x0 x1 x2 x3 x4 n0 h0) room_1.cells room_1.slots (s₁.setTop (mkF m 114 #[.val (.long x0), .second, .val (.long x1), .second, .val (.long x2), .second, .val (.long x3), .second, .val (.int x4), .val (.int (((XT.ushr x4 (2 : Int32)) &&& (63 : Int32)) % (63 : Int32))), .val (.int (((XT.ushr x4 (8 : Int32)) &&& (63 : Int32)) % (63 : Int32))), .val (.int (own_f0_1 x0 x1 x2 x3 x4)), .val (.int (own_f0_2 x0 x1 x2 x3 x4)), .val (.long (own_f0_3 x0 x1 x2 x3 x4)), .second, .val (.long (own_f0_4 x0 x1 x2 x3 x4)), .second, .unset, .unset, .unset, .unset, .unset] [(.long (1 : Int64))]))
              rw [show (own_f0_5 x0 x1 x2 x3 x4) = (1 : Int64) from by simp only [own_f0_5, if_neg hc5]] at J12
              exact J12
          by_cases hc4 : (own_f0_1 x0 x1 x2 x3 x4) = (0 : Int32)
          · refine own_Goes.step (fun t k => XS.ifYes X0.here hx rfl (pc0 := 74) (pc' := 81) rfl (hb hby at_74) rfl (XT.i0_eq_t hc4) (by decide) (by decide) k) ?_
            show own_Goes p e below s (own_F0 Z x0 x1 x2 x3 x4 n0 h0) room_1.cells room_1.slots (s₁.setTop (mkF m 81 #[.val (.long x0), .second, .val (.long x1), .second, .val (.long x2), .second, .val (.long x3), .second, .val (.int x4), .val (.int (((XT.ushr x4 (2 : Int32)) &&& (63 : Int32)) % (63 : Int32))), .val (.int (((XT.ushr x4 (8 : Int32)) &&& (63 : Int32)) % (63 : Int32))), .val (.int (own_f0_1 x0 x1 x2 x3 x4)), .val (.int (own_f0_2 x0 x1 x2 x3 x4)), .val (.long (own_f0_3 x0 x1 x2 x3 x4)), .second, .unset, .unset, .unset, .unset, .unset, .unset, .unset] []))
            refine own_Goes.step (fun t k => XT.lconstV X0.here hx rfl (1 : Int64) (hb hby at_81) (by decide) k) ?_
            show own_Goes p e below s (own_F0 Z x0 x1 x2 x3 x4 n0 h0) room_1.cells room_1.slots (s₁.setTop (mkF m 82 #[.val (.long x0), .second, .val (.long x1), .second, .val (.long x2), .second, .val (.long x3), .second, .val (.int x4), .val (.int (((XT.ushr x4 (2 : Int32)) &&& (63 : Int32)) % (63 : Int32))), .val (.int (((XT.ushr x4 (8 : Int32)) &&& (63 : Int32)) % (63 : Int32))), .val (.int (own_f0_1 x0 x1 x2 x3 x4)), .val (.int (own_f0_2 x0 x1 x2 x3 x4)), .val (.long (own_f0_3 x0 x1 x2 x3 x4)), .second, .unset, .unset, .unset, .unset, .unset, .unset, .unset] [(.long (1 : Int64))]))
            refine own_Goes.step (fun t k => XT.lloadN X0.here hx rfl (hb hby at_82) rfl k) ?_
            show own_Goes p e below s (own_F0 Z x0 x1 x2 x3 x4 n0 h0) room_1.cells room_1.slots (s₁.setTop (mkF m 83 #[.val (.long x0), .second, .val (.long x1), .second, .val (.long x2), .second, .val (.long x3), .second, .val (.int x4), .val (.int (((XT.ushr x4 (2 : Int32)) &&& (63 : Int32)) % (63 : Int32))), .val (.int (((XT.ushr x4 (8 : Int32)) &&& (63 : Int32)) % (63 : Int32))), .val (.int (own_f0_1 x0 x1 x2 x3 x4)), .val (.int (own_f0_2 x0 x1 x2 x3 x4)), .val (.long (own_f0_3 x0 x1 x2 x3 x4)), .second, .unset, .unset, .unset, .unset, .unset, .unset, .unset] [(.long x1), (.long (1 : Int64))]))
            refine own_Goes.step (fun t k => X0.ldc2J hx hown (mvT hZ (hw _ (List.mem_of_getElem? (i := 15) rfl))) rfl (hb hby at_83) k) ?_
            show own_Goes p e below s (own_F0 Z x0 x1 x2 x3 x4 n0 h0) room_1.cells room_1.slots (s₁.setTop (mkF m 86 #[.val (.long x0), .second, .val (.long x1), .second, .val (.long x2), .second, .val (.long x3), .second, .val (.int x4), .val (.int (((XT.ushr x4 (2 : Int32)) &&& (63 : Int32)) % (63 : Int32))), .val (.int (((XT.ushr x4 (8 : Int32)) &&& (63 : Int32)) % (63 : Int32))), .val (.int (own_f0_1 x0 x1 x2 x3 x4)), .val (.int (own_f0_2 x0 x1 x2 x3 x4)), .val (.long (own_f0_3 x0 x1 x2 x3 x4)), .second, .unset, .unset, .unset, .unset, .unset, .unset, .unset] [(.long (9223372036854775807 : Int64)), (.long x1), (.long (1 : Int64))]))
            refine own_Goes.step (fun t k => XT.land X0.here hx rfl (hb hby at_86) rfl k) ?_
            show own_Goes p e below s (own_F0 Z x0 x1 x2 x3 x4 n0 h0) room_1.cells room_1.slots (s₁.setTop (mkF m 87 #[.val (.long x0), .second, .val (.long x1), .second, .val (.long x2), .second, .val (.long x3), .second, .val (.int x4), .val (.int (((XT.ushr x4 (2 : Int32)) &&& (63 : Int32)) % (63 : Int32))), .val (.int (((XT.ushr x4 (8 : Int32)) &&& (63 : Int32)) % (63 : Int32))), .val (.int (own_f0_1 x0 x1 x2 x3 x4)), .val (.int (own_f0_2 x0 x1 x2 x3 x4)), .val (.long (own_f0_3 x0 x1 x2 x3 x4)), .second, .unset, .unset, .unset, .unset, .unset, .unset, .unset] [(.long (x1 &&& (9223372036854775807 : Int64))), (.long (1 : Int64))]))
            refine own_Goes.step (fun t k => XT.bipushV X0.here hx rfl (63 : Int32) (hb hby at_87) (by decide) k) ?_
            show own_Goes p e below s (own_F0 Z x0 x1 x2 x3 x4 n0 h0) room_1.cells room_1.slots (s₁.setTop (mkF m 89 #[.val (.long x0), .second, .val (.long x1), .second, .val (.long x2), .second, .val (.long x3), .second, .val (.int x4), .val (.int (((XT.ushr x4 (2 : Int32)) &&& (63 : Int32)) % (63 : Int32))), .val (.int (((XT.ushr x4 (8 : Int32)) &&& (63 : Int32)) % (63 : Int32))), .val (.int (own_f0_1 x0 x1 x2 x3 x4)), .val (.int (own_f0_2 x0 x1 x2 x3 x4)), .val (.long (own_f0_3 x0 x1 x2 x3 x4)), .second, .unset, .unset, .unset, .unset, .unset, .unset, .unset] [(.int (63 : Int32)), (.long (x1 &&& (9223372036854775807 : Int64))), (.long (1 : Int64))]))
            refine own_Goes.step (fun t k => XS.iload X0.here hx rfl (hb hby at_89) rfl k) ?_
            show own_Goes p e below s (own_F0 Z x0 x1 x2 x3 x4 n0 h0) room_1.cells room_1.slots (s₁.setTop (mkF m 91 #[.val (.long x0), .second, .val (.long x1), .second, .val (.long x2), .second, .val (.long x3), .second, .val (.int x4), .val (.int (((XT.ushr x4 (2 : Int32)) &&& (63 : Int32)) % (63 : Int32))), .val (.int (((XT.ushr x4 (8 : Int32)) &&& (63 : Int32)) % (63 : Int32))), .val (.int (own_f0_1 x0 x1 x2 x3 x4)), .val (.int (own_f0_2 x0 x1 x2 x3 x4)), .val (.long (own_f0_3 x0 x1 x2 x3 x4)), .second, .unset, .unset, .unset, .unset, .unset, .unset, .unset] [(.int (((XT.ushr x4 (2 : Int32)) &&& (63 : Int32)) % (63 : Int32))), (.int (63 : Int32)), (.long (x1 &&& (9223372036854775807 : Int64))), (.long (1 : Int64))]))
            refine own_Goes.step (fun t k => XS.isub X0.here hx rfl (hb hby at_91) rfl k) ?_
            show own_Goes p e below s (own_F0 Z x0 x1 x2 x3 x4 n0 h0) room_1.cells room_1.slots (s₁.setTop (mkF m 92 #[.val (.long x0), .second, .val (.long x1), .second, .val (.long x2), .second, .val (.long x3), .second, .val (.int x4), .val (.int (((XT.ushr x4 (2 : Int32)) &&& (63 : Int32)) % (63 : Int32))), .val (.int (((XT.ushr x4 (8 : Int32)) &&& (63 : Int32)) % (63 : Int32))), .val (.int (own_f0_1 x0 x1 x2 x3 x4)), .val (.int (own_f0_2 x0 x1 x2 x3 x4)), .val (.long (own_f0_3 x0 x1 x2 x3 x4)), .second, .unset, .unset, .unset, .unset, .unset, .unset, .unset] [(.int ((63 : Int32) - (((XT.ushr x4 (2 : Int32)) &&& (63 : Int32)) % (63 : Int32)))), (.long (x1 &&& (9223372036854775807 : Int64))), (.long (1 : Int64))]))
            refine own_Goes.step (fun t k => XT.lushr X0.here hx rfl (hb hby at_92) rfl k) ?_
            show own_Goes p e below s (own_F0 Z x0 x1 x2 x3 x4 n0 h0) room_1.cells room_1.slots (s₁.setTop (mkF m 93 #[.val (.long x0), .second, .val (.long x1), .second, .val (.long x2), .second, .val (.long x3), .second, .val (.int x4), .val (.int (((XT.ushr x4 (2 : Int32)) &&& (63 : Int32)) % (63 : Int32))), .val (.int (((XT.ushr x4 (8 : Int32)) &&& (63 : Int32)) % (63 : Int32))), .val (.int (own_f0_1 x0 x1 x2 x3 x4)), .val (.int (own_f0_2 x0 x1 x2 x3 x4)), .val (.long (own_f0_3 x0 x1 x2 x3 x4)), .second, .unset, .unset, .unset, .unset, .unset, .unset, .unset] [(.long (XT.ushrL (x1 &&& (9223372036854775807 : Int64)) ((63 : Int32) - (((XT.ushr x4 (2 : Int32)) &&& (63 : Int32)) % (63 : Int32))))), (.long (1 : Int64))]))
            refine own_Goes.step (fun t k => XT.ladd X0.here hx rfl (hb hby at_93) rfl k) ?_
            show own_Goes p e below s (own_F0 Z x0 x1 x2 x3 x4 n0 h0) room_1.cells room_1.slots (s₁.setTop (mkF m 94 #[.val (.long x0), .second, .val (.long x1), .second, .val (.long x2), .second, .val (.long x3), .second, .val (.int x4), .val (.int (((XT.ushr x4 (2 : Int32)) &&& (63 : Int32)) % (63 : Int32))), .val (.int (((XT.ushr x4 (8 : Int32)) &&& (63 : Int32)) % (63 : Int32))), .val (.int (own_f0_1 x0 x1 x2 x3 x4)), .val (.int (own_f0_2 x0 x1 x2 x3 x4)), .val (.long (own_f0_3 x0 x1 x2 x3 x4)), .second, .unset, .unset, .unset, .unset, .unset, .unset, .unset] [(.long ((1 : Int64) + (XT.ushrL (x1 &&& (9223372036854775807 : Int64)) ((63 : Int32) - (((XT.ushr x4 (2 : Int32)) &&& (63 : Int32)) % (63 : Int32))))))]))
            rw [show (own_f0_4 x0 x1 x2 x3 x4) = ((1 : Int64) + (XT.ushrL (x1 &&& (9223372036854775807 : Int64)) ((63 : Int32) - (((XT.ushr x4 (2 : Int32)) &&& (63 : Int32)) % (63 : Int32))))) from by simp only [own_f0_4, if_pos hc4]] at J13
            exact J13
          · refine own_Goes.step (fun t k => XS.ifNo X0.here hx rfl (hb hby at_74) rfl (XT.i0_eq_f hc4) k) ?_
            show own_Goes p e below s (own_F0 Z x0 x1 x2 x3 x4 n0 h0) room_1.cells room_1.slots (s₁.setTop (mkF m 77 #[.val (.long x0), .second, .val (.long x1), .second, .val (.long x2), .second, .val (.long x3), .second, .val (.int x4), .val (.int (((XT.ushr x4 (2 : Int32)) &&& (63 : Int32)) % (63 : Int32))), .val (.int (((XT.ushr x4 (8 : Int32)) &&& (63 : Int32)) % (63 : Int32))), .val (.int (own_f0_1 x0 x1 x2 x3 x4)), .val (.int (own_f0_2 x0 x1 x2 x3 x4)), .val (.long (own_f0_3 x0 x1 x2 x3 x4)), .second, .unset, .unset, .unset, .unset, .unset, .unset, .unset] []))
            refine own_Goes.step (fun t k => XT.lconstV X0.here hx rfl (0 : Int64) (hb hby at_77) (by decide) k) ?_
            show own_Goes p e below s (own_F0 Z x0 x1 x2 x3 x4 n0 h0) room_1.cells room_1.slots (s₁.setTop (mkF m 78 #[.val (.long x0), .second, .val (.long x1), .second, .val (.long x2), .second, .val (.long x3), .second, .val (.int x4), .val (.int (((XT.ushr x4 (2 : Int32)) &&& (63 : Int32)) % (63 : Int32))), .val (.int (((XT.ushr x4 (8 : Int32)) &&& (63 : Int32)) % (63 : Int32))), .val (.int (own_f0_1 x0 x1 x2 x3 x4)), .val (.int (own_f0_2 x0 x1 x2 x3 x4)), .val (.long (own_f0_3 x0 x1 x2 x3 x4)), .second, .unset, .unset, .unset, .unset, .unset, .unset, .unset] [(.long (0 : Int64))]))
            refine own_Goes.step (fun t k => XS.goto X0.here hx rfl (pc0 := 78) (pc' := 94) rfl (hb hby at_78) (by decide) (by decide) k) ?_
            show own_Goes p e below s (own_F0 Z x0 x1 x2 x3 x4 n0 h0) room_1.cells room_1.slots (s₁.setTop (mkF m 94 #[.val (.long x0), .second, .val (.long x1), .second, .val (.long x2), .second, .val (.long x3), .second, .val (.int x4), .val (.int (((XT.ushr x4 (2 : Int32)) &&& (63 : Int32)) % (63 : Int32))), .val (.int (((XT.ushr x4 (8 : Int32)) &&& (63 : Int32)) % (63 : Int32))), .val (.int (own_f0_1 x0 x1 x2 x3 x4)), .val (.int (own_f0_2 x0 x1 x2 x3 x4)), .val (.long (own_f0_3 x0 x1 x2 x3 x4)), .second, .unset, .unset, .unset, .unset, .unset, .unset, .unset] [(.long (0 : Int64))]))
            rw [show (own_f0_4 x0 x1 x2 x3 x4) = (0 : Int64) from by simp only [own_f0_4, if_neg hc4]] at J13
            exact J13
        by_cases hc3 : (own_f0_1 x0 x1 x2 x3 x4) = (0 : Int32)
        · refine own_Goes.step (fun t k => XS.ifYes X0.here hx rfl (pc0 := 55) (pc' := 62) rfl (hb hby at_55) rfl (XT.i0_eq_t hc3) (by decide) (by decide) k) ?_
          show own_Goes p e below s (own_F0 Z x0 x1 x2 x3 x4 n0 h0) room_1.cells room_1.slots (s₁.setTop (mkF m 62 #[.val (.long x0), .second, .val (.long x1), .second, .val (.long x2), .second, .val (.long x3), .second, .val (.int x4), .val (.int (((XT.ushr x4 (2 : Int32)) &&& (63 : Int32)) % (63 : Int32))), .val (.int (((XT.ushr x4 (8 : Int32)) &&& (63 : Int32)) % (63 : Int32))), .val (.int (own_f0_1 x0 x1 x2 x3 x4)), .val (.int (own_f0_2 x0 x1 x2 x3 x4)), .unset, .unset, .unset, .unset, .unset, .unset, .unset, .unset, .unset] []))
          refine own_Goes.step (fun t k => XT.lloadN X0.here hx rfl (hb hby at_62) rfl k) ?_
          show own_Goes p e below s (own_F0 Z x0 x1 x2 x3 x4 n0 h0) room_1.cells room_1.slots (s₁.setTop (mkF m 63 #[.val (.long x0), .second, .val (.long x1), .second, .val (.long x2), .second, .val (.long x3), .second, .val (.int x4), .val (.int (((XT.ushr x4 (2 : Int32)) &&& (63 : Int32)) % (63 : Int32))), .val (.int (((XT.ushr x4 (8 : Int32)) &&& (63 : Int32)) % (63 : Int32))), .val (.int (own_f0_1 x0 x1 x2 x3 x4)), .val (.int (own_f0_2 x0 x1 x2 x3 x4)), .unset, .unset, .unset, .unset, .unset, .unset, .unset, .unset, .unset] [(.long x0)]))
          refine own_Goes.step (fun t k => X0.ldc2J hx hown (mvT hZ (hw _ (List.mem_of_getElem? (i := 15) rfl))) rfl (hb hby at_63) k) ?_
          show own_Goes p e below s (own_F0 Z x0 x1 x2 x3 x4 n0 h0) room_1.cells room_1.slots (s₁.setTop (mkF m 66 #[.val (.long x0), .second, .val (.long x1), .second, .val (.long x2), .second, .val (.long x3), .second, .val (.int x4), .val (.int (((XT.ushr x4 (2 : Int32)) &&& (63 : Int32)) % (63 : Int32))), .val (.int (((XT.ushr x4 (8 : Int32)) &&& (63 : Int32)) % (63 : Int32))), .val (.int (own_f0_1 x0 x1 x2 x3 x4)), .val (.int (own_f0_2 x0 x1 x2 x3 x4)), .unset, .unset, .unset, .unset, .unset, .unset, .unset, .unset, .unset] [(.long (9223372036854775807 : Int64)), (.long x0)]))
          refine own_Goes.step (fun t k => XT.land X0.here hx rfl (hb hby at_66) rfl k) ?_
          show own_Goes p e below s (own_F0 Z x0 x1 x2 x3 x4 n0 h0) room_1.cells room_1.slots (s₁.setTop (mkF m 67 #[.val (.long x0), .second, .val (.long x1), .second, .val (.long x2), .second, .val (.long x3), .second, .val (.int x4), .val (.int (((XT.ushr x4 (2 : Int32)) &&& (63 : Int32)) % (63 : Int32))), .val (.int (((XT.ushr x4 (8 : Int32)) &&& (63 : Int32)) % (63 : Int32))), .val (.int (own_f0_1 x0 x1 x2 x3 x4)), .val (.int (own_f0_2 x0 x1 x2 x3 x4)), .unset, .unset, .unset, .unset, .unset, .unset, .unset, .unset, .unset] [(.long (x0 &&& (9223372036854775807 : Int64)))]))
          refine own_Goes.step (fun t k => XS.iload X0.here hx rfl (hb hby at_67) rfl k) ?_
          show own_Goes p e below s (own_F0 Z x0 x1 x2 x3 x4 n0 h0) room_1.cells room_1.slots (s₁.setTop (mkF m 69 #[.val (.long x0), .second, .val (.long x1), .second, .val (.long x2), .second, .val (.long x3), .second, .val (.int x4), .val (.int (((XT.ushr x4 (2 : Int32)) &&& (63 : Int32)) % (63 : Int32))), .val (.int (((XT.ushr x4 (8 : Int32)) &&& (63 : Int32)) % (63 : Int32))), .val (.int (own_f0_1 x0 x1 x2 x3 x4)), .val (.int (own_f0_2 x0 x1 x2 x3 x4)), .unset, .unset, .unset, .unset, .unset, .unset, .unset, .unset, .unset] [(.int (((XT.ushr x4 (8 : Int32)) &&& (63 : Int32)) % (63 : Int32))), (.long (x0 &&& (9223372036854775807 : Int64)))]))
          refine own_Goes.step (fun t k => XT.lushr X0.here hx rfl (hb hby at_69) rfl k) ?_
          show own_Goes p e below s (own_F0 Z x0 x1 x2 x3 x4 n0 h0) room_1.cells room_1.slots (s₁.setTop (mkF m 70 #[.val (.long x0), .second, .val (.long x1), .second, .val (.long x2), .second, .val (.long x3), .second, .val (.int x4), .val (.int (((XT.ushr x4 (2 : Int32)) &&& (63 : Int32)) % (63 : Int32))), .val (.int (((XT.ushr x4 (8 : Int32)) &&& (63 : Int32)) % (63 : Int32))), .val (.int (own_f0_1 x0 x1 x2 x3 x4)), .val (.int (own_f0_2 x0 x1 x2 x3 x4)), .unset, .unset, .unset, .unset, .unset, .unset, .unset, .unset, .unset] [(.long (XT.ushrL (x0 &&& (9223372036854775807 : Int64)) (((XT.ushr x4 (8 : Int32)) &&& (63 : Int32)) % (63 : Int32))))]))
          rw [show (own_f0_3 x0 x1 x2 x3 x4) = (XT.ushrL (x0 &&& (9223372036854775807 : Int64)) (((XT.ushr x4 (8 : Int32)) &&& (63 : Int32)) % (63 : Int32))) from by simp only [own_f0_3, if_pos hc3]] at J14
          exact J14
        · refine own_Goes.step (fun t k => XS.ifNo X0.here hx rfl (hb hby at_55) rfl (XT.i0_eq_f hc3) k) ?_
          show own_Goes p e below s (own_F0 Z x0 x1 x2 x3 x4 n0 h0) room_1.cells room_1.slots (s₁.setTop (mkF m 58 #[.val (.long x0), .second, .val (.long x1), .second, .val (.long x2), .second, .val (.long x3), .second, .val (.int x4), .val (.int (((XT.ushr x4 (2 : Int32)) &&& (63 : Int32)) % (63 : Int32))), .val (.int (((XT.ushr x4 (8 : Int32)) &&& (63 : Int32)) % (63 : Int32))), .val (.int (own_f0_1 x0 x1 x2 x3 x4)), .val (.int (own_f0_2 x0 x1 x2 x3 x4)), .unset, .unset, .unset, .unset, .unset, .unset, .unset, .unset, .unset] []))
          refine own_Goes.step (fun t k => XT.lconstV X0.here hx rfl (1 : Int64) (hb hby at_58) (by decide) k) ?_
          show own_Goes p e below s (own_F0 Z x0 x1 x2 x3 x4 n0 h0) room_1.cells room_1.slots (s₁.setTop (mkF m 59 #[.val (.long x0), .second, .val (.long x1), .second, .val (.long x2), .second, .val (.long x3), .second, .val (.int x4), .val (.int (((XT.ushr x4 (2 : Int32)) &&& (63 : Int32)) % (63 : Int32))), .val (.int (((XT.ushr x4 (8 : Int32)) &&& (63 : Int32)) % (63 : Int32))), .val (.int (own_f0_1 x0 x1 x2 x3 x4)), .val (.int (own_f0_2 x0 x1 x2 x3 x4)), .unset, .unset, .unset, .unset, .unset, .unset, .unset, .unset, .unset] [(.long (1 : Int64))]))
          refine own_Goes.step (fun t k => XS.goto X0.here hx rfl (pc0 := 59) (pc' := 70) rfl (hb hby at_59) (by decide) (by decide) k) ?_
          show own_Goes p e below s (own_F0 Z x0 x1 x2 x3 x4 n0 h0) room_1.cells room_1.slots (s₁.setTop (mkF m 70 #[.val (.long x0), .second, .val (.long x1), .second, .val (.long x2), .second, .val (.long x3), .second, .val (.int x4), .val (.int (((XT.ushr x4 (2 : Int32)) &&& (63 : Int32)) % (63 : Int32))), .val (.int (((XT.ushr x4 (8 : Int32)) &&& (63 : Int32)) % (63 : Int32))), .val (.int (own_f0_1 x0 x1 x2 x3 x4)), .val (.int (own_f0_2 x0 x1 x2 x3 x4)), .unset, .unset, .unset, .unset, .unset, .unset, .unset, .unset, .unset] [(.long (1 : Int64))]))
          rw [show (own_f0_3 x0 x1 x2 x3 x4) = (1 : Int64) from by simp only [own_f0_3, if_neg hc3]] at J14
          exact J14
      by_cases hc2 : (x4 &&& (2 : Int32)) = (0 : Int32)
      · refine own_Goes.step (fun t k => XS.ifYes X0.here hx rfl (pc0 := 43) (pc' := 50) rfl (hb hby at_43) rfl (XT.i0_eq_t hc2) (by decide) (by decide) k) ?_
        show own_Goes p e below s (own_F0 Z x0 x1 x2 x3 x4 n0 h0) room_1.cells room_1.slots (s₁.setTop (mkF m 50 #[.val (.long x0), .second, .val (.long x1), .second, .val (.long x2), .second, .val (.long x3), .second, .val (.int x4), .val (.int (((XT.ushr x4 (2 : Int32)) &&& (63 : Int32)) % (63 : Int32))), .val (.int (((XT.ushr x4 (8 : Int32)) &&& (63 : Int32)) % (63 : Int32))), .val (.int (own_f0_1 x0 x1 x2 x3 x4)), .unset, .unset, .unset, .unset, .unset, .unset, .unset, .unset, .unset, .unset] []))
        refine own_Goes.step (fun t k => XT.iconstV X0.here hx rfl (0 : Int32) (hb hby at_50) (by decide) k) ?_
        show own_Goes p e below s (own_F0 Z x0 x1 x2 x3 x4 n0 h0) room_1.cells room_1.slots (s₁.setTop (mkF m 51 #[.val (.long x0), .second, .val (.long x1), .second, .val (.long x2), .second, .val (.long x3), .second, .val (.int x4), .val (.int (((XT.ushr x4 (2 : Int32)) &&& (63 : Int32)) % (63 : Int32))), .val (.int (((XT.ushr x4 (8 : Int32)) &&& (63 : Int32)) % (63 : Int32))), .val (.int (own_f0_1 x0 x1 x2 x3 x4)), .unset, .unset, .unset, .unset, .unset, .unset, .unset, .unset, .unset, .unset] [(.int (0 : Int32))]))
        rw [show (own_f0_2 x0 x1 x2 x3 x4) = (0 : Int32) from by simp only [own_f0_2, if_pos hc2]] at J15
        exact J15
      · refine own_Goes.step (fun t k => XS.ifNo X0.here hx rfl (hb hby at_43) rfl (XT.i0_eq_f hc2) k) ?_
        show own_Goes p e below s (own_F0 Z x0 x1 x2 x3 x4 n0 h0) room_1.cells room_1.slots (s₁.setTop (mkF m 46 #[.val (.long x0), .second, .val (.long x1), .second, .val (.long x2), .second, .val (.long x3), .second, .val (.int x4), .val (.int (((XT.ushr x4 (2 : Int32)) &&& (63 : Int32)) % (63 : Int32))), .val (.int (((XT.ushr x4 (8 : Int32)) &&& (63 : Int32)) % (63 : Int32))), .val (.int (own_f0_1 x0 x1 x2 x3 x4)), .unset, .unset, .unset, .unset, .unset, .unset, .unset, .unset, .unset, .unset] []))
        refine own_Goes.step (fun t k => XT.iconstV X0.here hx rfl (1 : Int32) (hb hby at_46) (by decide) k) ?_
        show own_Goes p e below s (own_F0 Z x0 x1 x2 x3 x4 n0 h0) room_1.cells room_1.slots (s₁.setTop (mkF m 47 #[.val (.long x0), .second, .val (.long x1), .second, .val (.long x2), .second, .val (.long x3), .second, .val (.int x4), .val (.int (((XT.ushr x4 (2 : Int32)) &&& (63 : Int32)) % (63 : Int32))), .val (.int (((XT.ushr x4 (8 : Int32)) &&& (63 : Int32)) % (63 : Int32))), .val (.int (own_f0_1 x0 x1 x2 x3 x4)), .unset, .unset, .unset, .unset, .unset, .unset, .unset, .unset, .unset, .unset] [(.int (1 : Int32))]))
        refine own_Goes.step (fun t k => XS.goto X0.here hx rfl (pc0 := 47) (pc' := 51) rfl (hb hby at_47) (by decide) (by decide) k) ?_
        show own_Goes p e below s (own_F0 Z x0 x1 x2 x3 x4 n0 h0) room_1.cells room_1.slots (s₁.setTop (mkF m 51 #[.val (.long x0), .second, .val (.long x1), .second, .val (.long x2), .second, .val (.long x3), .second, .val (.int x4), .val (.int (((XT.ushr x4 (2 : Int32)) &&& (63 : Int32)) % (63 : Int32))), .val (.int (((XT.ushr x4 (8 : Int32)) &&& (63 : Int32)) % (63 : Int32))), .val (.int (own_f0_1 x0 x1 x2 x3 x4)), .unset, .unset, .unset, .unset, .unset, .unset, .unset, .unset, .unset, .unset] [(.int (1 : Int32))]))
        rw [show (own_f0_2 x0 x1 x2 x3 x4) = (1 : Int32) from by simp only [own_f0_2, if_neg hc2]] at J15
        exact J15
    by_cases hc1 : (x4 &&& (1 : Int32)) = (0 : Int32)
    · refine own_Goes.step (fun t k => XS.ifYes X0.here hx rfl (pc0 := 29) (pc' := 36) rfl (hb hby at_29) rfl (XT.i0_eq_t hc1) (by decide) (by decide) k) ?_
      show own_Goes p e below s (own_F0 Z x0 x1 x2 x3 x4 n0 h0) room_1.cells room_1.slots (s₁.setTop (mkF m 36 #[.val (.long x0), .second, .val (.long x1), .second, .val (.long x2), .second, .val (.long x3), .second, .val (.int x4), .val (.int (((XT.ushr x4 (2 : Int32)) &&& (63 : Int32)) % (63 : Int32))), .val (.int (((XT.ushr x4 (8 : Int32)) &&& (63 : Int32)) % (63 : Int32))), .unset, .unset, .unset, .unset, .unset, .unset, .unset, .unset, .unset, .unset, .unset] []))
      refine own_Goes.step (fun t k => XT.iconstV X0.here hx rfl (0 : Int32) (hb hby at_36) (by decide) k) ?_
      show own_Goes p e below s (own_F0 Z x0 x1 x2 x3 x4 n0 h0) room_1.cells room_1.slots (s₁.setTop (mkF m 37 #[.val (.long x0), .second, .val (.long x1), .second, .val (.long x2), .second, .val (.long x3), .second, .val (.int x4), .val (.int (((XT.ushr x4 (2 : Int32)) &&& (63 : Int32)) % (63 : Int32))), .val (.int (((XT.ushr x4 (8 : Int32)) &&& (63 : Int32)) % (63 : Int32))), .unset, .unset, .unset, .unset, .unset, .unset, .unset, .unset, .unset, .unset, .unset] [(.int (0 : Int32))]))
      rw [show (own_f0_1 x0 x1 x2 x3 x4) = (0 : Int32) from by simp only [own_f0_1, if_pos hc1]] at J16
      exact J16
    · refine own_Goes.step (fun t k => XS.ifNo X0.here hx rfl (hb hby at_29) rfl (XT.i0_eq_f hc1) k) ?_
      show own_Goes p e below s (own_F0 Z x0 x1 x2 x3 x4 n0 h0) room_1.cells room_1.slots (s₁.setTop (mkF m 32 #[.val (.long x0), .second, .val (.long x1), .second, .val (.long x2), .second, .val (.long x3), .second, .val (.int x4), .val (.int (((XT.ushr x4 (2 : Int32)) &&& (63 : Int32)) % (63 : Int32))), .val (.int (((XT.ushr x4 (8 : Int32)) &&& (63 : Int32)) % (63 : Int32))), .unset, .unset, .unset, .unset, .unset, .unset, .unset, .unset, .unset, .unset, .unset] []))
      refine own_Goes.step (fun t k => XT.iconstV X0.here hx rfl (1 : Int32) (hb hby at_32) (by decide) k) ?_
      show own_Goes p e below s (own_F0 Z x0 x1 x2 x3 x4 n0 h0) room_1.cells room_1.slots (s₁.setTop (mkF m 33 #[.val (.long x0), .second, .val (.long x1), .second, .val (.long x2), .second, .val (.long x3), .second, .val (.int x4), .val (.int (((XT.ushr x4 (2 : Int32)) &&& (63 : Int32)) % (63 : Int32))), .val (.int (((XT.ushr x4 (8 : Int32)) &&& (63 : Int32)) % (63 : Int32))), .unset, .unset, .unset, .unset, .unset, .unset, .unset, .unset, .unset, .unset, .unset] [(.int (1 : Int32))]))
      refine own_Goes.step (fun t k => XS.goto X0.here hx rfl (pc0 := 33) (pc' := 37) rfl (hb hby at_33) (by decide) (by decide) k) ?_
      show own_Goes p e below s (own_F0 Z x0 x1 x2 x3 x4 n0 h0) room_1.cells room_1.slots (s₁.setTop (mkF m 37 #[.val (.long x0), .second, .val (.long x1), .second, .val (.long x2), .second, .val (.long x3), .second, .val (.int x4), .val (.int (((XT.ushr x4 (2 : Int32)) &&& (63 : Int32)) % (63 : Int32))), .val (.int (((XT.ushr x4 (8 : Int32)) &&& (63 : Int32)) % (63 : Int32))), .unset, .unset, .unset, .unset, .unset, .unset, .unset, .unset, .unset, .unset, .unset] [(.int (1 : Int32))]))
      rw [show (own_f0_1 x0 x1 x2 x3 x4) = (1 : Int32) from by simp only [own_f0_1, if_neg hc1]] at J16
      exact J16
  obtain ⟨t2, o2, q1, q2, q3, q4⟩ := hgo
  exact ⟨t2, o2, castTop (ef_0 m x0 x1 x2 x3 x4) q1, q2, q3, q4⟩
theorem own_law (x0 x1 x2 x3 : Int64) (x4 : Int32) : own_f0 x0 x1 x2 x3 x4 = 1 := by
  have key : own_f3 (own_f0_7 x0 x1 x2 x3 x4) = own_f4 (own_f0_1 x0 x1 x2 x3 x4) (own_f0_2 x0 x1 x2 x3 x4) (own_f0_3 x0 x1 x2 x3 x4) (own_f0_4 x0 x1 x2 x3 x4) (own_f0_5 x0 x1 x2 x3 x4) (own_f0_6 x0 x1 x2 x3 x4) := by
    have e1 := own_e63 (XT.ushr x4 (2 : Int32))
    have e2 := own_e63 (XT.ushr x4 (8 : Int32))
    have p1 := own_prod (x0 &&& 9223372036854775807) (x3 &&& 9223372036854775807) (own_m63 x0) (own_m63 x3) _ e2.1 e2.2
    have p2 := own_prod (x2 &&& 9223372036854775807) (x1 &&& 9223372036854775807) (own_m63 x2) (own_m63 x1) _ e1.1 e1.2
    unfold own_f0_7 own_f0_3 own_f0_4 own_f0_5 own_f0_6
    have n1 : ¬ (1 : Int32) = 0 := by decide
    have z0 : (0 : Int64).toInt = 0 := rfl
    have k1 : (1 : Int64).toInt = 1 := rfl
    by_cases i1 : x4 &&& (1 : Int32) = 0
    · have f1 : own_f0_1 x0 x1 x2 x3 x4 = 0 := by unfold own_f0_1; rw [if_pos i1]
      by_cases i2 : x4 &&& (2 : Int32) = 0
      · have f2 : own_f0_2 x0 x1 x2 x3 x4 = 0 := by unfold own_f0_2; rw [if_pos i2]
        rw [f1, f2]
        simp only [if_true]
        exact own_ord _ _ _ _ p1.1 p2.2.1 p2.1 p1.2.1 p1.2.2 p2.2.2
      · have f2 : own_f0_2 x0 x1 x2 x3 x4 = 1 := by unfold own_f0_2; rw [if_neg i2]
        rw [f1, f2]
        simp only [if_true, if_neg n1]
        generalize (1 : Int64) + XT.ushrL (x1 &&& 9223372036854775807) _ = d at *
        generalize XT.ushrL (x0 &&& 9223372036854775807) _ = n at *
        have hp : n * 0 < 1 * d := by rw [Int64.mul_zero, Int64.one_mul, own_lt64, z0]; exact p2.2.1
        have g : own_f3 (own_f1 n d 1 0) = if n * 0 < 1 * d then -1 else if n * 0 = 1 * d then 0 else 1 := own_sgn _ _
        rw [g, if_pos hp]
        simp only [own_f4, if_true, if_neg n1]
    · have f1 : own_f0_1 x0 x1 x2 x3 x4 = 1 := by unfold own_f0_1; rw [if_neg i1]
      by_cases i2 : x4 &&& (2 : Int32) = 0
      · have f2 : own_f0_2 x0 x1 x2 x3 x4 = 0 := by unfold own_f0_2; rw [if_pos i2]
        rw [f1, f2]
        simp only [if_true, if_neg n1]
        generalize (1 : Int64) + XT.ushrL (x3 &&& 9223372036854775807) _ = od at *
        generalize XT.ushrL (x2 &&& 9223372036854775807) _ = on at *
        have g : own_f3 (own_f1 1 0 on od) = if 1 * od < on * 0 then -1 else if 1 * od = on * 0 then 0 else 1 := own_sgn _ _
        have h1 : ¬ 1 * od < on * 0 := by rw [Int64.mul_zero, Int64.one_mul, own_lt64, z0]; omega
        have h2 : ¬ 1 * od = on * 0 := by rw [Int64.mul_zero, Int64.one_mul, own_eq64, z0]; omega
        rw [g, if_neg h1, if_neg h2]
        simp only [own_f4, if_true, if_neg n1]
      · have f2 : own_f0_2 x0 x1 x2 x3 x4 = 1 := by unfold own_f0_2; rw [if_neg i2]
        rw [f1, f2]
        simp only [if_neg n1]
        decide
  rw [own_f0, if_pos key]
set_option maxRecDepth 65536 in
set_option maxHeartbeats 40000000 in
theorem comes_1 {Post : Tables → Env → Array Value → State → Outcome → State → Prop} (hpost : ∀ tb e args s v u, (limb_1_1.after args s (.returned v) u = true ∧ limb_1_2.after args s (.returned v) u = true ∧ True) → FrameEnd s (.returned v) u (Jvm.fieldLocs frame_1_writes args s ++ Jvm.arrayLocs frame_1_arrays args s ++ Jvm.staticLocs frame_1_statics s) 0 0 → Post tb e args s (.returned v) u) :
    ArmFor flags0 classFile x code maxLocals ret World_1 tables_1 room_1 Calls_1 rest_1 Pre_1 Post := by
  intro l hfl _ _ p e ha hc hk s m args below hf hA hF happ hP
  obtain ⟨hcalls, hrest, hpre⟩ := hP
  obtain ⟨-, -, -, hnamed, -, -, -, hat⟩ := (Spec.applies_iff hf).mp happ
  obtain ⟨hg, hn⟩ := and_e (Cond.before_iff.mp (show (Jvm.Cond.and given_1 narrow_1).before args s = true from hpre))
  obtain ⟨hcount, hr0⟩ := and_e hg
  obtain ⟨w0, w1, w2, w3, w4, rfl⟩ : ∃ w0 w1 w2 w3 w4 : Value, args = #[w0, w1, w2, w3, w4] := by
    have hs : args.size = 5 := by simpa [Cond.value, given_1] using hcount
    obtain ⟨L⟩ := args
    match L, hs with
    | [w0, w1, w2, w3, w4], _ => exact ⟨w0, w1, w2, w3, w4, rfl⟩
  have hw := fun d (hd : d ∈ tables_1) => atoms_spec (ws := Jvm.Cond.code x code maxLocals ret :: tables_1) hat d (List.mem_cons_of_mem _ hd)
  obtain ⟨ha0, hr1⟩ := and_e hr0
  obtain ⟨i0, ev0⟩ := isL_v ha0
  obtain rfl : w0 = (.long i0) := Option.some.inj ev0
  obtain ⟨ha1, hr2⟩ := and_e hr1
  obtain ⟨i1, ev1⟩ := isL_v ha1
  obtain rfl : w1 = (.long i1) := Option.some.inj ev1
  obtain ⟨ha2, hr3⟩ := and_e hr2
  obtain ⟨i2, ev2⟩ := isL_v ha2
  obtain rfl : w2 = (.long i2) := Option.some.inj ev2
  obtain ⟨ha3, hr4⟩ := and_e hr3
  obtain ⟨i3, ev3⟩ := isL_v ha3
  obtain rfl : w3 = (.long i3) := Option.some.inj ev3
  obtain ⟨i4, ev4⟩ := is_v hr4
  obtain rfl : w4 = (.int i4) := Option.some.inj ev4
  obtain ⟨n, o, h1, h2, h3, _, L, rfl, ⟨rfl, N⟩, hq⟩ := own_m0 l s _ hw tables_1 i0 i1 i2 i3 i4 s.heap.size s.heap (Nat.le_refl _) p e ha hc hk s m _ below hf ((Spec.applies_iff_loose hf).mp happ).1 ⟨rfl, State.Warmed39.refl s, rfl⟩ trivial
  rw [own_law i0 i1 i2 i3 i4] at h3 hq
  refine ⟨n, _, h1, h2, h3, hpost _ _ _ _ _ _ ⟨Cond.after_iff.mpr rfl, Cond.after_iff.mpr (eq_i res_at (Term.int_eval (1)) rfl), trivial⟩ ⟨hq.1, hq.2.1, (hq.2.2.sift fun y hy => Or.inr (N y hy)).mono (by decide) (by decide)⟩⟩
theorem main_1_1 : Claimed_1_1 := comes_1 fun _ _ _ _ _ _ h hF => ⟨h.1, hF⟩
theorem main_1_2 : Claimed_1_2 := comes_1 fun _ _ _ _ _ _ h hF => ⟨h.2.1, hF⟩
end Jvm.Pilot.@@N@@
namespace Jvm.Pilot.@@N@@
open Jvm Jvm.ClassFile Sem Op Lib Jvm.Free Jvm.Stand Jvm.Pilot.@@N@@.Jvm.D
/-! MADE BY PROGRAM (witnessworld.py) out of the Statement's table words and the real class files: 15 classes; the members and pool entries that the words name. The judged class is class 1, her method 1. -/
namespace start1
open Jvm.ClassFile
def u (s : String) : CpInfo := .utf8 (stringToUtf16 s)
/-- a pool by its gaps: so many unusable entries, then the entry; so many at the end -/
def gap : Nat → List CpInfo → List CpInfo
  | 0, r => r
  | n + 1, r => .unusable :: gap n r
def poolList (es : List (Nat × CpInfo)) (last : Nat) : List CpInfo := es.foldr (fun e r => gap e.1 (e.2 :: r)) (gap last [])
def pool (es : List (Nat × CpInfo)) (last : Nat) : Array CpInfo := ⟨poolList es last⟩
def fileOf (pool : Array CpInfo) (this : Nat) (attrs : Array Attribute := #[]) (ms : Array MethodInfo := #[]) (fl : Nat := 33) (sup : Nat := 0) (ifs : Array Nat := #[]) (fds : Array FieldInfo := #[]) : ClassFile where
  minorVersion := 0
  majorVersion := 65
  constantPool := pool
  accessFlags := fl
  thisClass := this
  superClass := sup
  interfaces := ifs
  fields := fds
  methods := ms
  attributes := attrs
def plain (name : String) (sup : Option ClassId) : Class where
  name := name
  kind := .ordinary
  loader := none
  accessFlags := 33
  super := sup
  interfaces := #[]
  cf := none
  fields := #[]
  methods := #[]
  instanceTypes := #[]
  staticTypes := #[]
  resolved := #[]
  callSites := []
  init := .initialized
  statics := none
  mirror := none

def pool0 : Array CpInfo := pool [(5, u "<init>"), (0, u "()V"), (1, .class_ 10), (1, u "java/lang/Object")] 113

def k0m0 : Method := { name := "<init>", desc := "()V", sig := { parameters := [], returnType := none }, accessFlags := 1, code := none }
/-- java/lang/Object -/
def k0 : Class := { plain "java/lang/Object" none with
  accessFlags := 33
  interfaces := #[]
  cf := some (fileOf pool0 8 #[] #[{ accessFlags := 1, nameIndex := 5, descriptorIndex := 6, attributes := #[] }] 33 0 #[] #[])
  fields := #[]
  methods := #[k0m0]
  instanceTypes := #[]
  staticTypes := #[]
  resolved := Array.replicate 124 none
  statics := none }

def pool1 : Array CpInfo := pool [(2, .class_ 4), (1, u "java/lang/Object"), (0, u "<init>"), (0, u "()V"), (2, .long 9223372036854775807), (1, .methodref 12 13), (0, .class_ 14), (0, .nameAndType 15 16), (0, u "com/example/instance_picker/instancepicker/Load"), (0, u "order"), (0, u "(JJJJ)I"), (0, .methodref 18 19), (0, .class_ 20), (0, .nameAndType 21 22), (0, u "com/example/instance_picker/instancepicker/LoadOrderPinLaw"), (0, u "sign"), (0, u "(I)I"), (0, .methodref 18 24), (0, .nameAndType 25 26), (0, u "expected"), (0, u "(ZZJJJJ)I"), (2, u "law"), (0, u "(JJJJI)Z")] 3

def k1m0 : Method := { name := "<init>", desc := "()V", sig := { parameters := [], returnType := none }, accessFlags := 1, code := none }
def k1c1 : Code := { maxStack := 11, maxLocals := 22, code := code, exceptionTable := #[], attributes := #[] }
def k1m1 : Method := { name := "law", desc := "(JJJJI)Z", sig := { parameters := [.long, .long, .long, .long, .int], returnType := some .boolean }, accessFlags := 9, code := some k1c1 }
def k1c2 : Code := { maxStack := 1, maxLocals := 1, code := method_3_code, exceptionTable := #[], attributes := #[] }
def k1m2 : Method := { name := "sign", desc := "(I)I", sig := { parameters := [.int], returnType := some .int }, accessFlags := 10, code := some k1c2 }
def k1c3 : Code := { maxStack := 4, maxLocals := 22, code := method_4_code, exceptionTable := #[], attributes := #[] }
def k1m3 : Method := { name := "expected", desc := "(ZZJJJJ)I", sig := { parameters := [.boolean, .boolean, .long, .long, .long, .long], returnType := some .int }, accessFlags := 10, code := some k1c3 }
/-- com/example/instance_picker/instancepicker/LoadOrderPinLaw -/
def k1 : Class := { plain "com/example/instance_picker/instancepicker/LoadOrderPinLaw" (some 0) with
  accessFlags := 49
  interfaces := #[]
  cf := some (fileOf pool1 18 #[] #[{ accessFlags := 1, nameIndex := 5, descriptorIndex := 6, attributes := #[] }, { accessFlags := 9, nameIndex := 29, descriptorIndex := 30, attributes := #[] }, { accessFlags := 10, nameIndex := 21, descriptorIndex := 22, attributes := #[] }, { accessFlags := 10, nameIndex := 25, descriptorIndex := 26, attributes := #[] }] 49 2 #[] #[])
  fields := #[]
  methods := #[k1m0, k1m1, k1m2, k1m3]
  instanceTypes := #[]
  staticTypes := #[]
  resolved := Array.replicate 34 none
  statics := none }

def pool2 : Array CpInfo := pool [(1, .class_ 2), (0, u "java/lang/constant/Constable"), (0, .class_ 4), (0, u "java/lang/Object")] 6

/-- java/lang/constant/Constable -/
def k2 : Class := { plain "java/lang/constant/Constable" (some 0) with
  accessFlags := 1537
  interfaces := #[]
  cf := some (fileOf pool2 1 #[] #[] 1537 3 #[] #[])
  fields := #[]
  methods := #[]
  instanceTypes := #[]
  staticTypes := #[]
  resolved := Array.replicate 11 none
  statics := none }

def pool3 : Array CpInfo := pool [(1, .class_ 2), (0, u "java/lang/Comparable"), (0, .class_ 4), (0, u "java/lang/Object")] 7

/-- java/lang/Comparable -/
def k3 : Class := { plain "java/lang/Comparable" (some 0) with
  accessFlags := 1537
  interfaces := #[]
  cf := some (fileOf pool3 1 #[] #[] 1537 3 #[] #[])
  fields := #[]
  methods := #[]
  instanceTypes := #[]
  staticTypes := #[]
  resolved := Array.replicate 12 none
  statics := none }

def pool4 : Array CpInfo := pool [(1, .class_ 2), (0, u "java/io/Serializable"), (0, .class_ 4), (0, u "java/lang/Object")] 2

/-- java/io/Serializable -/
def k4 : Class := { plain "java/io/Serializable" (some 0) with
  accessFlags := 1537
  interfaces := #[]
  cf := some (fileOf pool4 1 #[] #[] 1537 3 #[] #[])
  fields := #[]
  methods := #[]
  instanceTypes := #[]
  staticTypes := #[]
  resolved := Array.replicate 7 none
  statics := none }

def pool5 : Array CpInfo := pool [(2, .class_ 4), (1, u "java/lang/Enum"), (0, u "name"), (0, u "Ljava/lang/String;"), (2, u "ordinal"), (0, u "I"), (1, .class_ 14), (1, u "java/lang/Object"), (4, u "hash"), (86, .class_ 108), (1, u "java/lang/Enum$EnumDesc"), (2, .class_ 112), (0, u "java/lang/constant/Constable"), (0, .class_ 114), (0, u "java/lang/Comparable"), (0, .class_ 116), (0, u "java/io/Serializable")] 87

/-- java/lang/Enum -/
def k5 : Class := { plain "java/lang/Enum" (some 0) with
  accessFlags := 1057
  interfaces := #[2, 3, 4]
  cf := some (fileOf pool5 2 #[.nestMembers #[106]] #[] 1057 12 #[111, 113, 115] #[{ accessFlags := 18, nameIndex := 5, descriptorIndex := 6, attributes := #[] }, { accessFlags := 18, nameIndex := 9, descriptorIndex := 10, attributes := #[] }, { accessFlags := 2, nameIndex := 19, descriptorIndex := 10, attributes := #[] }])
  fields := #[{ name := "name", type := (.object "java/lang/String"), accessFlags := 18, slot := 0, constantValue := 0 }, { name := "ordinal", type := .int, accessFlags := 18, slot := 1, constantValue := 0 }, { name := "hash", type := .int, accessFlags := 2, slot := 2, constantValue := 0 }]
  methods := #[]
  instanceTypes := #[(.object "java/lang/String"), .int, .int]
  staticTypes := #[]
  resolved := Array.replicate 204 none
  statics := none }

def pool6 : Array CpInfo := pool [(1, .class_ 2), (0, u "com/example/instance_picker/instancepicker/Load"), (2, u "ACTIVE_CALLS"), (0, u "Lcom/example/instance_picker/instancepicker/Load;"), (2, u "ACTIVE_CALLS_PER_WEIGHT"), (2, u "RESPONSE_TIME"), (2, u "$VALUES"), (0, u "[Lcom/example/instance_picker/instancepicker/Load;"), (6, .class_ 25), (1, u "java/lang/Enum"), (20, u "order"), (0, u "(JJJJ)I"), (0, .methodref 49 50), (0, .class_ 51), (0, .nameAndType 52 53), (0, u "java/lang/Long"), (0, u "compare"), (0, u "(JJ)I"), (13, .class_ 68), (0, u "com/example/instance_picker/instancepicker/Load$1"), (2, .class_ 72), (0, u "com/example/instance_picker/instancepicker/Load$2"), (2, .class_ 76), (0, u "com/example/instance_picker/instancepicker/Load$3")] 26

def k6c0 : Code := { maxStack := 6, maxLocals := 8, code := prog_13_method_9_code, exceptionTable := #[], attributes := #[] }
def k6m0 : Method := { name := "order", desc := "(JJJJ)I", sig := { parameters := [.long, .long, .long, .long], returnType := some .int }, accessFlags := 8, code := some k6c0 }
/-- com/example/instance_picker/instancepicker/Load -/
def k6 : Class := { plain "com/example/instance_picker/instancepicker/Load" (some 5) with
  accessFlags := 17440
  interfaces := #[]
  cf := some (fileOf pool6 1 #[.nestMembers #[75, 71, 67]] #[{ accessFlags := 8, nameIndex := 46, descriptorIndex := 47, attributes := #[] }] 17440 23 #[] #[{ accessFlags := 16409, nameIndex := 5, descriptorIndex := 6, attributes := #[] }, { accessFlags := 16409, nameIndex := 9, descriptorIndex := 6, attributes := #[] }, { accessFlags := 16409, nameIndex := 12, descriptorIndex := 6, attributes := #[] }, { accessFlags := 4122, nameIndex := 15, descriptorIndex := 16, attributes := #[] }])
  fields := #[{ name := "ACTIVE_CALLS", type := (.object "com/example/instance_picker/instancepicker/Load"), accessFlags := 16409, slot := 0, constantValue := 0 }, { name := "ACTIVE_CALLS_PER_WEIGHT", type := (.object "com/example/instance_picker/instancepicker/Load"), accessFlags := 16409, slot := 1, constantValue := 0 }, { name := "RESPONSE_TIME", type := (.object "com/example/instance_picker/instancepicker/Load"), accessFlags := 16409, slot := 2, constantValue := 0 }, { name := "$VALUES", type := (.array (.object "com/example/instance_picker/instancepicker/Load")), accessFlags := 4122, slot := 3, constantValue := 0 }]
  methods := #[k6m0]
  instanceTypes := #[(.object "java/lang/String"), .int, .int]
  staticTypes := #[(.object "com/example/instance_picker/instancepicker/Load"), (.object "com/example/instance_picker/instancepicker/Load"), (.object "com/example/instance_picker/instancepicker/Load"), (.array (.object "com/example/instance_picker/instancepicker/Load"))]
  resolved := Array.replicate 103 none
  statics := none }

def pool7 : Array CpInfo := pool [(2, .class_ 4), (1, u "java/lang/Object"), (0, u "<init>"), (0, u "()V"), (1, .class_ 10), (1, u "java/lang/Number"), (2, .class_ 14), (0, u "java/io/Serializable"), (0, u "serialVersionUID"), (0, u "J")] 20

def k7m0 : Method := { name := "<init>", desc := "()V", sig := { parameters := [], returnType := none }, accessFlags := 1, code := none }
/-- java/lang/Number -/
def k7 : Class := { plain "java/lang/Number" (some 0) with
  accessFlags := 1057
  interfaces := #[4]
  cf := some (fileOf pool7 8 #[] #[{ accessFlags := 1, nameIndex := 5, descriptorIndex := 6, attributes := #[] }] 1057 2 #[13] #[{ accessFlags := 26, nameIndex := 15, descriptorIndex := 16, attributes := #[] }])
  fields := #[{ name := "serialVersionUID", type := .long, accessFlags := 26, slot := 0, constantValue := 0 }]
  methods := #[k7m0]
  instanceTypes := #[]
  staticTypes := #[.long]
  resolved := Array.replicate 37 none
  statics := none }

def pool8 : Array CpInfo := pool [(1, .class_ 2), (0, u "java/lang/constant/ConstantDesc"), (0, .class_ 4), (0, u "java/lang/Object")] 32

/-- java/lang/constant/ConstantDesc -/
def k8 : Class := { plain "java/lang/constant/ConstantDesc" (some 0) with
  accessFlags := 1537
  interfaces := #[]
  cf := some (fileOf pool8 1 #[] #[] 1537 3 #[] #[])
  fields := #[]
  methods := #[]
  instanceTypes := #[]
  staticTypes := #[]
  resolved := Array.replicate 37 none
  statics := none }

def pool9 : Array CpInfo := pool [(1, .class_ 2), (0, u "java/lang/Long"), (232, .class_ 237), (1, u "java/lang/Long$LongCache"), (33, .class_ 272), (0, u "java/lang/Number"), (2, u "value"), (0, u "J"), (27, u "compare"), (0, u "(JJ)I"), (55, u "TYPE"), (0, u "Ljava/lang/Class;"), (0, .class_ 364), (0, u "java/lang/Comparable"), (0, .class_ 366), (0, u "java/lang/constant/Constable"), (0, .class_ 368), (0, u "java/lang/constant/ConstantDesc"), (0, u "MIN_VALUE"), (1, u "MAX_VALUE"), (4, u "SIZE"), (0, u "I"), (1, u "BYTES"), (1, u "serialVersionUID")] 142

def k9c0 : Code := { maxStack := 4, maxLocals := 4, code := jdk_35_method_42_code, exceptionTable := #[], attributes := #[] }
def k9m0 : Method := { name := "compare", desc := "(JJ)I", sig := { parameters := [.long, .long], returnType := some .int }, accessFlags := 9, code := some k9c0 }
/-- java/lang/Long -/
def k9 : Class := { plain "java/lang/Long" (some 7) with
  accessFlags := 49
  interfaces := #[3, 2, 8]
  cf := some (fileOf pool9 1 #[.nestMembers #[235]] #[{ accessFlags := 9, nameIndex := 304, descriptorIndex := 305, attributes := #[] }] 49 271 #[363, 365, 367] #[{ accessFlags := 25, nameIndex := 369, descriptorIndex := 276, attributes := #[] }, { accessFlags := 25, nameIndex := 371, descriptorIndex := 276, attributes := #[] }, { accessFlags := 25, nameIndex := 361, descriptorIndex := 362, attributes := #[] }, { accessFlags := 18, nameIndex := 275, descriptorIndex := 276, attributes := #[] }, { accessFlags := 25, nameIndex := 376, descriptorIndex := 377, attributes := #[] }, { accessFlags := 25, nameIndex := 379, descriptorIndex := 377, attributes := #[] }, { accessFlags := 26, nameIndex := 381, descriptorIndex := 276, attributes := #[] }])
  fields := #[{ name := "MIN_VALUE", type := .long, accessFlags := 25, slot := 0, constantValue := 0 }, { name := "MAX_VALUE", type := .long, accessFlags := 25, slot := 1, constantValue := 0 }, { name := "TYPE", type := (.object "java/lang/Class"), accessFlags := 25, slot := 2, constantValue := 0 }, { name := "value", type := .long, accessFlags := 18, slot := 0, constantValue := 0 }, { name := "SIZE", type := .int, accessFlags := 25, slot := 3, constantValue := 0 }, { name := "BYTES", type := .int, accessFlags := 25, slot := 4, constantValue := 0 }, { name := "serialVersionUID", type := .long, accessFlags := 26, slot := 5, constantValue := 0 }]
  methods := #[k9m0]
  instanceTypes := #[.long]
  staticTypes := #[.long, .long, (.object "java/lang/Class"), .int, .int, .long]
  resolved := Array.replicate 524 none
  statics := none }

def pool10 : Array CpInfo := pool [(1, u "java/lang/Cloneable"), (0, .class_ 1), (0, u "java/lang/Object"), (0, .class_ 3)] 3

/-- java/lang/Cloneable -/
def k10 : Class := { plain "java/lang/Cloneable" (some 0) with
  accessFlags := 1537
  interfaces := #[]
  cf := some (fileOf pool10 2 #[] #[] 1537 4 #[] #[])
  fields := #[]
  methods := #[]
  instanceTypes := #[]
  staticTypes := #[]
  resolved := Array.replicate 8 none
  statics := none }

/-- the primitive byte -/
def k11 : Class := { plain "byte" none with kind := .primitive 'B', accessFlags := 0x411 }
/-- [B -/
def k12 : Class := { plain "[B" (some 0) with kind := .array 11 .byte, interfaces := #[10, 4], accessFlags := 1041 }

/-- the primitive int -/
def k13 : Class := { plain "int" none with kind := .primitive 'I', accessFlags := 0x411 }
/-- [I -/
def k14 : Class := { plain "[I" (some 0) with kind := .array 13 .int, interfaces := #[10, 4], accessFlags := 1041 }

def heap : Heap := #[]
def classes : Array Class := #[k0, k1, k2, k3, k4, k5, k6, k7, k8, k9, k10, k11, k12, k13, k14]
def interned : List (Array UInt16 × Addr) := []
def slotsUsed : Nat := 0
def theMethod : MethodId := ⟨1, 1⟩
def args0 : Array Value := #[.long 5, .long 6, .long 7, .long 8, .int 0]
def aboutOver (below : List Frame) : State where
  vm := { classes := classes, interned := interned.toArray }
  heap := heap
  slotsUsed := slotsUsed
  threads := #[{ frames := .invoking theMethod args0 :: below }]
def below0 : List Frame := [.native { method := ⟨0, 0⟩, args := #[] }]
def about1 : State := aboutOver below0
def p0 : Program := .bare "" "" ""
def e0 : Env := launch0.env 0 0 0
theorem w_frames : about1.frames = Frame.invoking theMethod args0 :: below0 := rfl
set_option maxRecDepth 65536 in
theorem w_args : argsFit about1.vm theMethod args0 = true := by decide +kernel
set_option maxRecDepth 65536 in
theorem w_heap : heapFits about1 = true := by decide +kernel
set_option maxRecDepth 65536 in
theorem w_runnable : about1.curStatus? = some .runnable := by decide +kernel
set_option maxRecDepth 65536 in
theorem w_alone : about1.alone = true := by decide +kernel
set_option maxRecDepth 65536 in
theorem w_named : about1.methodNamed? x = some theMethod := by decide +kernel
set_option maxRecDepth 65536 in
theorem w_hears : about1.hears theMethod below0 = true := by decide +kernel
set_option maxRecDepth 65536 in
theorem w_ripe : about1.ripe theMethod args0 below0 = true := by decide +kernel
theorem w_running : about1.status = .running := rfl
set_option maxRecDepth 65536 in
theorem w_room : about1.hasRoom e0.platform room_1 = true :=
  launch0.hasRoom_least _ room_1 (by decide +kernel) (by decide +kernel) (by decide +kernel) (by decide +kernel) (by decide +kernel) (by decide +kernel)
theorem allAtoms_all (ts : List Jvm.Cond) (a : Array Jvm.Value) (st : Jvm.State) : (allAtoms ts).before a st = ts.all (fun c => c.before a st) := by
  induction ts with
  | nil => rfl
  | cons c t ih =>
    show (Jvm.Cond.and c (allAtoms t)).before a st = _
    rw [Jvm.Cond.before_and, ih, List.all_cons]
def words1 : List Jvm.Cond := Jvm.Cond.code x code maxLocals ret :: tables_1
/-- a 'code' word, met by the world's own term for the bytes: nothing is compared byte by byte -/
theorem code_word {y : MethodName} {bytes : ByteArray} {mx : Nat} {rt : Option FieldType} {a : Array Value} {s : State} {m : MethodId} {meth : Method} {c : Code} (h1 : s.methodNamed? y = some m) (h2 : s.vm.method? m = some meth) (h3 : meth.code = some c) (h4 : c.code = bytes)
    (h5 : (c.maxLocals == mx && c.exceptionTable.isEmpty && decide (c.maxStack ≤ mostOperands) && decide (meth.sig.returnType = rt) && !meth.locks && decide (parseMethodDescriptor y.desc = some meth.sig)) = true) : (Jvm.Cond.code y bytes mx rt).before a s = true := by
  simp only [Bool.and_eq_true, beq_iff_eq, Bool.not_eq_true', decide_eq_true_eq] at h5
  obtain ⟨⟨⟨⟨⟨g1, g2⟩, g3⟩, g4⟩, g5⟩, g6⟩ := h5
  simp [Cond.before, Cond.holds, Cond.value, h1, h2, h3, h4, g1, g2, g3, g4, g5, g6]
def isCode : Jvm.Cond → Bool
  | .code _ _ _ _ => true
  | _ => false
theorem all_split {L : List Jvm.Cond} {P : Jvm.Cond → Bool} (h1 : L.all (fun c => isCode c || P c) = true) (h2 : ∀ c ∈ L.filter isCode, P c = true) : L.all P = true := by
  refine List.all_eq_true.mpr fun c hc => ?_
  have h := List.all_eq_true.mp h1 c hc
  rcases Bool.eq_false_or_eq_true (isCode c) with hi | hi
  · exact h2 c (List.mem_filter.mpr ⟨hc, hi⟩)
  · simpa [hi] using h
set_option maxRecDepth 65536 in
theorem w_c0 : (Jvm.Cond.code x code maxLocals ret).before args0 about1 = true := code_word (m := ⟨1, 1⟩) (meth := k1m1) (c := k1c1) (by decide +kernel) rfl rfl rfl (by decide +kernel)
set_option maxRecDepth 65536 in
theorem w_c1 : (Jvm.Cond.code ({ cls := "com/example/instance_picker/instancepicker/Load", name := "order", desc := "(JJJJ)I" } : Jvm.MethodName) prog_13_method_9_code (8 : Nat) (Option.some Jvm.ClassFile.FieldType.int)).before args0 about1 = true := code_word (m := ⟨6, 0⟩) (meth := k6m0) (c := k6c0) (by decide +kernel) rfl rfl rfl (by decide +kernel)
set_option maxRecDepth 65536 in
theorem w_c2 : (Jvm.Cond.code ({ cls := "java/lang/Long", name := "compare", desc := "(JJ)I" } : Jvm.MethodName) jdk_35_method_42_code (4 : Nat) (Option.some Jvm.ClassFile.FieldType.int)).before args0 about1 = true := code_word (m := ⟨9, 0⟩) (meth := k9m0) (c := k9c0) (by decide +kernel) rfl rfl rfl (by decide +kernel)
set_option maxRecDepth 65536 in
theorem w_c3 : (Jvm.Cond.code ({ cls := "com/example/instance_picker/instancepicker/LoadOrderPinLaw", name := "sign", desc := "(I)I" } : Jvm.MethodName) method_3_code (1 : Nat) (Option.some Jvm.ClassFile.FieldType.int)).before args0 about1 = true := code_word (m := ⟨1, 2⟩) (meth := k1m2) (c := k1c2) (by decide +kernel) rfl rfl rfl (by decide +kernel)
set_option maxRecDepth 65536 in
theorem w_c4 : (Jvm.Cond.code ({ cls := "com/example/instance_picker/instancepicker/LoadOrderPinLaw", name := "expected", desc := "(ZZJJJJ)I" } : Jvm.MethodName) method_4_code (22 : Nat) (Option.some Jvm.ClassFile.FieldType.int)).before args0 about1 = true := code_word (m := ⟨1, 3⟩) (meth := k1m3) (c := k1c3) (by decide +kernel) rfl rfl rfl (by decide +kernel)
def codes1 : List Jvm.Cond := [Jvm.Cond.code x code maxLocals ret, Jvm.Cond.code ({ cls := "com/example/instance_picker/instancepicker/Load", name := "order", desc := "(JJJJ)I" } : Jvm.MethodName) prog_13_method_9_code (8 : Nat) (Option.some Jvm.ClassFile.FieldType.int), Jvm.Cond.code ({ cls := "java/lang/Long", name := "compare", desc := "(JJ)I" } : Jvm.MethodName) jdk_35_method_42_code (4 : Nat) (Option.some Jvm.ClassFile.FieldType.int), Jvm.Cond.code ({ cls := "com/example/instance_picker/instancepicker/LoadOrderPinLaw", name := "sign", desc := "(I)I" } : Jvm.MethodName) method_3_code (1 : Nat) (Option.some Jvm.ClassFile.FieldType.int), Jvm.Cond.code ({ cls := "com/example/instance_picker/instancepicker/LoadOrderPinLaw", name := "expected", desc := "(ZZJJJJ)I" } : Jvm.MethodName) method_4_code (22 : Nat) (Option.some Jvm.ClassFile.FieldType.int)]
set_option maxRecDepth 65536 in
theorem codes_eq : words1.filter isCode = codes1 := rfl
theorem w_codes : ∀ c ∈ words1.filter isCode, c.before args0 about1 = true := by
  rw [codes_eq]
  intro c hc
  simp only [codes1, List.mem_cons, List.not_mem_nil, or_false] at hc
  rcases hc with rfl | rfl | rfl | rfl | rfl
  · exact w_c0
  · exact w_c1
  · exact w_c2
  · exact w_c3
  · exact w_c4
set_option maxRecDepth 65536 in
theorem w_t1 : words1.all (fun c => isCode c || c.before args0 about1) = true := by decide +kernel
theorem w_tables : (allAtoms (Jvm.Cond.code x code maxLocals ret :: tables_1)).before args0 about1 = true := by
  rw [allAtoms_all]
  show words1.all (fun c => c.before args0 about1) = true
  refine all_split ?_ w_codes
  rw [w_t1]
set_option maxRecDepth 65536 in
theorem w_case : (Jvm.Cond.and given_1 narrow_1).before args0 about1 = true := by decide +kernel
theorem w_applies : (headSpec (Jvm.Cond.code x code maxLocals ret :: tables_1) room_1).applies x e0.platform about1 = true :=
  (Spec.applies_iff w_frames).mpr ⟨w_running, w_runnable, w_alone, w_named, w_hears, w_ripe, w_room, w_tables⟩
theorem atStart : AtStart classFile x code maxLocals ret World_1 tables_1 room_1 Calls_1 rest_1 Pre_1 launch0 p0 e0 about1 theMethod args0 below0 :=
  ⟨lists_1, trivial, launch0.admits_env _ _ _, launch0.least_env, fairChoices_fair.cas, fairChoices_fair.clock, w_frames, w_args, w_heap, w_applies, trivial, trivial, w_case⟩
end start1
theorem witness_1 : WitnessClaimed_1 := ⟨start1.p0, start1.e0, start1.about1, start1.theMethod, start1.args0, start1.below0, start1.atStart⟩
end Jvm.Pilot.@@N@@
