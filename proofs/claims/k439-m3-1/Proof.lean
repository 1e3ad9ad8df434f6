import JvmDerived
import JvmDerived.Pilot.@@N@@Statement
import JvmDerived.Pilot.@@N@@Code
set_option linter.unusedVariables false
set_option linter.unusedSimpArgs false
@@BLOCK:NumsL.lean.txt@@
namespace Jvm.RoadKit
open Sem ClassFile Op Lib Jvm.Stand Jvm.Free Jvm.LawKit
section New
variable {p : Program} {l : Launch} {e : Env} {R : Room} {s : State} {m : MethodId} {args : Array Value} {below : List Frame} {meth : Method} {c : Code} {T : State} {locs : List Loc} {cells slots : Nat}
theorem retI (X : Stand p l e R s m args below meth c T locs cells slots) (hx : p.tables.exec = Jvm.exec) {pc : Nat} {Ls : Array Slot} {z : Int32} {rest : List Value} (hret : meth.sig.returnType = some .int) (hd : decode c.code pc = .ok (.ireturn, 1)) {fs : List Frame}
    (hl : ∀ (f : JFrame) (acts : List Action), f.method = m → f.locked = none → f.entered = [] → (doReturn e (T.setTop f) acts (some (.int z))).1 = T.setFrames fs) : Steps p.tables e below (T.setTop (mkF m pc Ls (.int z :: rest))) (T.setFrames fs) := by
  have hm' : T.vm.method? m = some meth := X.method'
  have hn : narrow .int (.int z) = .int z := rfl
  show Steps p.tables e below (T.setTop { method := m, pc := pc, locals := Ls, stack := _ :: rest, locked := none }) _
  jvm_step X.here [X.here.top, hx, hd, hm', hret, hn]
  first | (intro acts; rw [hl _ acts rfl rfl rfl]) | rw [hl _ _ rfl rfl rfl]
  exact Steps.refl _
/-- the run from A comes to a return of which F says the value, the heap and the written places -/
def own_Goes (p : Program) (e : Env) (below : List Frame) (s : State) (F : Option Value → Heap → List Loc → Prop) (k n : Nat) (A : State) : Prop :=
  ∃ s₂ o, Steps p.tables e below A s₂ ∧ s₂.status = .running ∧ Ended s₂ below o ∧ ∃ v L, o = .returned v ∧ F v s₂.heap L ∧ FrameEnd s o s₂ L k n
variable {F : Option Value → Heap → List Loc → Prop} {k n : Nat}
theorem own_Goes.step {A B : State} (h : ∀ t, Steps p.tables e below B t → Steps p.tables e below A t) (g : own_Goes p e below s F k n B) : own_Goes p e below s F k n A := by
  obtain ⟨s₂, o, h1, h2⟩ := g
  exact ⟨s₂, o, h _ h1, h2⟩
theorem own_endI (X : Stand p l e R s m args below meth c T locs cells slots) (hx : p.tables.exec = Jvm.exec) (hlk : meth.locks = false) {pc : Nat} {Ls : Array Slot} {z : Int32} {rest : List Value} (hret : meth.sig.returnType = some .int) (hd : decode c.code pc = .ok (.ireturn, 1)) (hF : F (some (.int z)) T.heap locs) (hk : cells ≤ k) (hn : slots ≤ n) :
    own_Goes p e below s F k n (T.setTop (mkF m pc Ls (.int z :: rest))) := by
  obtain ⟨fs, hr, hrun, hended, hW, hsame⟩ := X.leave (v := some (.int z)) (fun h => by rw [hret] at h; cases h) hlk
  exact ⟨_, _, retI X hx hret hd hr, hrun, hended, _, _, rfl, hF, ⟨_, rfl⟩, hW, hsame.mono hk hn⟩
theorem own_endN (X : Stand p l e R s m args below meth c T locs cells slots) (hx : p.tables.exec = Jvm.exec) (hlk : meth.locks = false) {pc : Nat} {Ls : Array Slot} {z : Int32} {t : FieldType} {rest : List Value} (hret : meth.sig.returnType = some t) (ht : t = .boolean ∨ t = .byte ∨ t = .char ∨ t = .short) (hd : decode c.code pc = .ok (.ireturn, 1)) (hF : F (some (.int (nar t z))) T.heap locs) (hk : cells ≤ k) (hn : slots ≤ n) :
    own_Goes p e below s F k n (T.setTop (mkF m pc Ls (.int z :: rest))) := by
  obtain ⟨fs, hr, hrun, hended, hW, hsame⟩ := X.leave (v := some (.int (nar t z))) (fun h => by rw [hret] at h; cases h) hlk
  exact ⟨_, _, retN X hx hret ht hd hr, hrun, hended, _, _, rfl, hF, ⟨_, rfl⟩, hW, hsame.mono hk hn⟩
theorem own_endJ (X : Stand p l e R s m args below meth c T locs cells slots) (hx : p.tables.exec = Jvm.exec) (hlk : meth.locks = false) {pc : Nat} {Ls : Array Slot} {z : Int64} (hret : meth.sig.returnType = some .long) (hd : decode c.code pc = .ok (.lreturn, 1)) (hF : F (some (.long z)) T.heap locs) (hk : cells ≤ k) (hn : slots ≤ n) :
    own_Goes p e below s F k n (T.setTop (mkF m pc Ls [.long z])) := by
  obtain ⟨fs, hr, hrun, hended, hW, hsame⟩ := X.leave (v := some (.long z)) (fun h => by rw [hret] at h; cases h) hlk
  exact ⟨_, _, X.lreturnOut hx hret hd hr, hrun, hended, _, _, rfl, hF, ⟨_, rfl⟩, hW, hsame.mono hk hn⟩
theorem own_endV (X : Stand p l e R s m args below meth c T locs cells slots) (hx : p.tables.exec = Jvm.exec) (hlk : meth.locks = false) {pc : Nat} {Ls : Array Slot} (hret : meth.sig.returnType = none) (hd : decode c.code pc = .ok (.return_, 1)) (hF : F none T.heap locs) (hk : cells ≤ k) (hn : slots ≤ n) :
    own_Goes p e below s F k n (T.setTop (mkF m pc Ls [])) := by
  obtain ⟨fs, hr, hrun, hended, hW, hsame⟩ := X.leave (v := none) (fun _ => rfl) hlk
  exact ⟨_, _, X.returnOut hx hret hd hr, hrun, hended, _, _, rfl, hF, ⟨_, rfl⟩, hW, hsame.mono hk hn⟩
theorem own_endA (X : Stand p l e R s m args below meth c T locs cells slots) (hx : p.tables.exec = Jvm.exec) (hlk : meth.locks = false) {pc : Nat} {Ls : Array Slot} {w : Value} {t : FieldType} (hw : w.isRef = true) (hret : meth.sig.returnType = some t) (ht : t.isReference = true) (hd : decode c.code pc = .ok (.areturn, 1)) (hF : F (some w) T.heap locs) (hk : cells ≤ k) (hn : slots ≤ n) :
    own_Goes p e below s F k n (T.setTop (mkF m pc Ls [w])) := by
  obtain ⟨fs, hr, hrun, hended, hW, hsame⟩ := X.leave (v := some w) (fun h => by rw [hret] at h; cases h) hlk
  exact ⟨_, _, X.areturnOut hx hw hret ht hd hr, hrun, hended, _, _, rfl, hF, ⟨_, rfl⟩, hW, hsame.mono hk hn⟩
theorem own_lrem (x y : Int64) : x - x / y * y = x % y := by
  refine Int64.toInt_inj.mp ?_
  rw [Jvm.Kit.i64_rem, Int64.toInt_mod]
theorem own_lremM {g : JFrame} {target : State} (X : Stand p l e R s m args below meth c T locs cells slots) (hx : p.tables.exec = Jvm.exec) (hg : g.method = m) {x y : Int64} {rest : List Value} (hd : decode c.code g.pc = .ok (.lrem, 1)) (hs : g.stack = .long y :: .long x :: rest) (hy : y ≠ 0)
    (hr : Steps p.tables e below (T.setTop { g with pc := g.pc + 1, stack := .long (x % y) :: rest }) target) : Steps p.tables e below (T.setTop g) target :=
  XT.lrem X.here hx hg hd hs hy (by rw [own_lrem]; exact hr)
/-- the three calls, by a contract in this family, carried forward -/
theorem own_stat {Z : State} {a0 : Array Value} {h : Heap} (X : Stand p l e R s m args below meth c T locs cells slots) (hx : p.tables.exec = Jvm.exec) (hZ : Z.Warmed39 s.vm) (eT : T.heap = h) {own : String} {index : Nat} {y : MethodName} {bytes : ByteArray} {maxL : Nat} {ret : Option FieldType} {rm : Room} {W : Nat} {argsL rest : List Value} {Q : Option Value → Heap → List Loc → Prop}
    (hown : s.vm.findClass own = some m.cls) (wl : (Cond.methodLink own index y).before a0 Z = true) (wst : (Cond.static y).before a0 Z = true) (wi : (Cond.initialized y.cls).before a0 Z = true) (wc : (Cond.code y bytes maxL ret).before a0 Z = true) (hy : y.cls ≠ "java/lang/invoke/MethodHandle" ∧ y.cls ≠ "java/lang/invoke/VarHandle")
    (hM : MetFree l y (head1 [Cond.code y bytes maxL ret] rm) (fun a U => a = argsL.toArray ∧ Z.Warmed39 U.vm ∧ U.heap = h) (fun _ _ _ _ _ => True) (fun _ U o U' => ∃ w L, o = .returned w ∧ Q w U'.heap L ∧ FrameEnd U o U' L rm.cells rm.slots))
    (hf : rm.frames + 1 ≤ R.frames) (hl : W + (maxL + 11) + rm.locals ≤ R.locals) (hcells : cells + rm.cells ≤ R.cells) (hslots : slots + rm.slots ≤ R.slots)
    {g : JFrame} (hg : g.method = m) (hsize : g.locals.size = c.maxLocals) (hlen : ∀ sig, parseMethodDescriptor y.desc = some sig → argsL.length = sig.parameters.length) (hstack : g.stack = argsL.reverse ++ rest) (hW : 2 * g.monitorRoom + (rest.map fun v => v.category).sum ≤ W) (hdg : decode c.code g.pc = .ok (.invokestatic index, 3)) :
    ∃ w T' L, Q w T'.heap L ∧ Stand p l e R s m args below meth c T' (locs ++ L) (cells + rm.cells) (slots + rm.slots) ∧ ∀ t, Steps p.tables e below (T'.setTop { g with pc := g.pc + 3, stack := w.toList ++ rest }) t → Steps p.tables e below (T.setTop g) t := by
  have hB := backOf (R := R) (p := p) (e := e) (below := below) (args := args) (len := 3) (W := W) (Q := Q) hM hZ wc wi hf hl
  obtain ⟨w, vm₁, ⟨U, Lc, k1, n1⟩, -, X', ⟨L, hQ, hL, hC, hS⟩, st⟩ := Jvm.LawKit.callS X hx (y := y) hown (mvT hZ wl) (mvT hZ wst) (mvT hZ wi) (mvT hZ wc) hy hB (g := g) hg hsize hlen hstack hW hdg (fun _ _ => ⟨rfl, eT, hcells, hslots⟩)
  dsimp only [Pt.U, Pt.locs, Pt.cells, Pt.slots] at X' hQ hL hC hS st
  subst hL hC hS
  exact ⟨w, U, L, hQ, X', st⟩
theorem own_spec {Z : State} {a0 : Array Value} {h : Heap} (X : Stand p l e R s m args below meth c T locs cells slots) (hx : p.tables.exec = Jvm.exec) (hZ : Z.Warmed39 s.vm) (eT : T.heap = h) {own : String} {index : Nat} {y : MethodName} {bytes : ByteArray} {maxL : Nat} {rm : Room} {W : Nat} {a : Addr} {argsL rest : List Value} {Q : Option Value → Heap → List Loc → Prop}
    (hy1 : y.name = "<init>") (hown : s.vm.findClass own = some m.cls) (wl : (Cond.methodLink own index y).before a0 Z = true) (wst : (Cond.instanceMethod y).before a0 Z = true) (wi : (Cond.initialized y.cls).before a0 Z = true) (wc : (Cond.code y bytes maxL none).before a0 Z = true) (hy : y.cls ≠ "java/lang/invoke/MethodHandle" ∧ y.cls ≠ "java/lang/invoke/VarHandle")
    (hM : MetFree l y (head1 [Cond.code y bytes maxL none] rm) (fun b U => b = (.ref a :: argsL).toArray ∧ Z.Warmed39 U.vm ∧ U.heap = h) (fun _ _ _ _ _ => True) (fun _ U o U' => ∃ w L, o = .returned w ∧ Q w U'.heap L ∧ FrameEnd U o U' L rm.cells rm.slots))
    (hf : rm.frames + 1 ≤ R.frames) (hl : W + (maxL + 11) + rm.locals ≤ R.locals) (hcells : cells + rm.cells ≤ R.cells) (hslots : slots + rm.slots ≤ R.slots)
    {g : JFrame} (hg : g.method = m) (hsize : g.locals.size = c.maxLocals) (hlen : ∀ sig, parseMethodDescriptor y.desc = some sig → argsL.length = sig.parameters.length) (hstack : g.stack = argsL.reverse ++ .ref a :: rest) (hW : 2 * g.monitorRoom + (rest.map fun v => v.category).sum ≤ W) (hdg : decode c.code g.pc = .ok (.invokespecial index, 3)) :
    ∃ w T' L, Q w T'.heap L ∧ Stand p l e R s m args below meth c T' (locs ++ L) (cells + rm.cells) (slots + rm.slots) ∧ ∀ t, Steps p.tables e below (T'.setTop { g with pc := g.pc + 3, stack := w.toList ++ rest }) t → Steps p.tables e below (T.setTop g) t := by
  have hB := backOf (R := R) (p := p) (e := e) (below := below) (args := args) (len := 3) (W := W) (Q := Q) hM hZ wc wi hf hl
  obtain ⟨w, vm₁, ⟨U, Lc, k1, n1⟩, -, X', ⟨L, hQ, hL, hC, hS⟩, st⟩ := X.specialBack hx (y := y) hy1 hown (mvT hZ wl) (mvT hZ wst) (mvT hZ wc) hy hB (g := g) hg hsize (Steps.refl _) (a := a) hlen hstack hW hdg (fun _ _ => ⟨rfl, eT, hcells, hslots⟩)
  dsimp only [Pt.U, Pt.locs, Pt.cells, Pt.slots] at X' hQ hL hC hS st
  subst hL hC hS
  exact ⟨w, U, L, hQ, X', fun t k => st.trans k⟩
theorem own_virt {Z : State} {a0 : Array Value} {h : Heap} (X : Stand p l e R s m args below meth c T locs cells slots) (hx : p.tables.exec = Jvm.exec) (hZ : Z.Warmed39 s.vm) (eT : T.heap = h) {own C : String} {index : Nat} {y : MethodName} {bytes : ByteArray} {maxL : Nat} {ret : Option FieldType} {rm : Room} {W : Nat} {a : Addr} {argsL rest : List Value} {Q : Option Value → Heap → List Loc → Prop}
    (E : Exa Z h a C) (hown : s.vm.findClass own = some m.cls) (wl : (Cond.methodLink own index y).before a0 Z = true) (wd : (Cond.declares y).before a0 Z = true) (ws : (Cond.selects C y y).before a0 Z = true) (wst : (Cond.instanceMethod y).before a0 Z = true) (wi : (Cond.initialized y.cls).before a0 Z = true) (wc : (Cond.code y bytes maxL ret).before a0 Z = true) (hy : y.cls ≠ "java/lang/invoke/MethodHandle" ∧ y.cls ≠ "java/lang/invoke/VarHandle")
    (hM : MetFree l y (head1 [Cond.code y bytes maxL ret] rm) (fun b U => b = (.ref a :: argsL).toArray ∧ Z.Warmed39 U.vm ∧ U.heap = h) (fun _ _ _ _ _ => True) (fun _ U o U' => ∃ w L, o = .returned w ∧ Q w U'.heap L ∧ FrameEnd U o U' L rm.cells rm.slots))
    (hf : rm.frames + 1 ≤ R.frames) (hl : W + (maxL + 11) + rm.locals ≤ R.locals) (hcells : cells + rm.cells ≤ R.cells) (hslots : slots + rm.slots ≤ R.slots)
    {g : JFrame} (hg : g.method = m) (hsize : g.locals.size = c.maxLocals) (hlen : ∀ sig, parseMethodDescriptor y.desc = some sig → argsL.length = sig.parameters.length) (hstack : g.stack = argsL.reverse ++ .ref a :: rest) (hW : 2 * g.monitorRoom + (rest.map fun v => v.category).sum ≤ W) (hdg : decode c.code g.pc = .ok (.invokevirtual index, 3)) :
    ∃ w T' L, Q w T'.heap L ∧ Stand p l e R s m args below meth c T' (locs ++ L) (cells + rm.cells) (slots + rm.slots) ∧ ∀ t, Steps p.tables e below (T'.setTop { g with pc := g.pc + 3, stack := w.toList ++ rest }) t → Steps p.tables e below (T.setTop g) t := by
  have hB := backOf (R := R) (p := p) (e := e) (below := below) (args := args) (len := 3) (W := W) (Q := Q) hM hZ wc wi hf hl
  obtain ⟨cq, kq, qa, qb, qc⟩ := isOf hZ eT E
  obtain ⟨w, vm₁, ⟨U, Lc, k1, n1⟩, -, X', ⟨L, hQ, hL, hC, hS⟩, st⟩ := X.virtualBack hx (y := y) (z := y) hown (mvT hZ wl) (mvT hZ wd) (notFace_of_selects (args := #[]) (mvT hZ ws)) (mvT hZ ws) (mvT hZ wst) hy hB qa qc (g := g) hg hsize (Steps.refl _) hlen hstack hW hdg (fun _ _ => ⟨rfl, eT, hcells, hslots⟩)
  dsimp only [Pt.U, Pt.locs, Pt.cells, Pt.slots] at X' hQ hL hC hS st
  subst hL hC hS
  exact ⟨w, U, L, hQ, X', fun t k => st.trans k⟩
/-- a call that left nothing behind -/
theorem own_clean {h : Heap} {w v : Option Value} {T' : State} {L : List Loc} {k0 n0 : Nat} (q : w = v ∧ L = [] ∧ T'.heap = h) (X : Stand p l e R s m args below meth c T' (locs ++ L) (cells + k0) (slots + n0)) (hk : k0 = 0) (hn : n0 = 0) : T'.heap = h ∧ Stand p l e R s m args below meth c T' locs cells slots := by
  obtain ⟨-, rfl, hh⟩ := q
  subst hk hn
  rw [List.append_nil] at X
  exact ⟨hh, X⟩
theorem own_nin {a b : Addr} (q : b ≠ a) : b ∉ [a] := fun h => q (List.mem_singleton.mp h)
theorem own_kt {h0 : Heap} {ws : List Addr} {a : Addr} (q : a ∈ ws ∨ h0.size ≤ a) : ∀ x ∈ [a], x ∈ ws ∨ h0.size ≤ x := fun x hx => by
  cases List.mem_singleton.mp hx; exact q
end New
end Jvm.RoadKit
namespace Jvm.Pilot.@@N@@
open Jvm Jvm.ClassFile Sem Op Lib Jvm.Free Jvm.Stand Jvm.LawKit Jvm.RoadKit Bundle Jvm.Pilot.@@N@@.Jvm.D
/-! plain facts on ints and longs -/
theorem own_char16 (u : UInt16) : (u.toUInt32.toInt32).toInt = u.toNat := by
  have h := u.toNat_lt
  show BitVec.toInt u.toUInt32.toBitVec = _
  rw [BitVec.toInt_eq_toNat_of_lt (by simp; omega)]
  simp
theorem own_char (y : Int32) : 0 ≤ (y.toUInt32.toUInt16.toUInt32.toInt32).toInt ∧ (y.toUInt32.toUInt16.toUInt32.toInt32).toInt < 65536 := by
  rw [own_char16]
  have h := y.toUInt32.toUInt16.toNat_lt
  omega
theorem own_fin32 {P : Int32 → Prop} (n : Nat) (h : ∀ k : Fin n, P (Int32.ofNat k)) (c : Int32) (h0 : 0 ≤ c.toInt) (h1 : c.toInt < n) : P c := by
  have e : c = Int32.ofNat c.toInt.toNat := by
    apply Int32.toInt_inj.mp
    have hb := c.toInt_lt
    rw [Int32.toInt_ofNat_of_lt (by omega)]
    omega
  rw [e]
  exact h ⟨c.toInt.toNat, by omega⟩
theorem own_lt32 (x y : Int32) : (x < y) ↔ x.toInt < y.toInt := Int32.lt_iff_toInt_lt
theorem own_eq32 (x y : Int32) : (x = y) ↔ x.toInt = y.toInt := Int32.toInt_inj.symm
theorem own_lt64 (x y : Int64) : (x < y) ↔ x.toInt < y.toInt := Int64.lt_iff_toInt_lt
theorem own_eq64 (x y : Int64) : (x = y) ↔ x.toInt = y.toInt := Int64.toInt_inj.symm
theorem d3_0 : decode prog_15_method_3_code 0 = .ok (.aload_n 0, 1) := by decide +kernel
theorem d3_1 : decode prog_15_method_3_code 1 = .ok (.getfield 16, 3) := by decide +kernel
theorem d3_4 : decode prog_15_method_3_code 4 = .ok (.i2l, 1) := by decide +kernel
theorem d3_5 : decode prog_15_method_3_code 5 = .ok (.aload_n 0, 1) := by decide +kernel
theorem d3_6 : decode prog_15_method_3_code 6 = .ok (.getfield 16, 3) := by decide +kernel
theorem d3_9 : decode prog_15_method_3_code 9 = .ok (.iconst 1, 1) := by decide +kernel
theorem d3_10 : decode prog_15_method_3_code 10 = .ok (.isub, 1) := by decide +kernel
theorem d3_11 : decode prog_15_method_3_code 11 = .ok (.i2l, 1) := by decide +kernel
theorem d3_12 : decode prog_15_method_3_code 12 = .ok (.lmul, 1) := by decide +kernel
theorem d3_13 : decode prog_15_method_3_code 13 = .ok (.ldc2_w 22, 3) := by decide +kernel
theorem d3_16 : decode prog_15_method_3_code 16 = .ok (.ldiv, 1) := by decide +kernel
theorem d3_17 : decode prog_15_method_3_code 17 = .ok (.lreturn, 1) := by decide +kernel
theorem pn_3 : plainName "com/example/nodus/nodus/FullMesh" = true := by first | (simp [plainName, overriddenIn]; done) | decide +kernel
theorem pd_3 : parseMethodDescriptor "()J" = some ⟨[], (some .long)⟩ := by decide +kernel
theorem ef_3 (m : MethodId) (x0 : Addr) : entryFrame m #[(.ref x0)] 1 = mkF m 0 #[.val (.ref x0)] [] := by first | (simp [entryFrame, mkF, argsToLocals, Value.category]; done) | rfl
def own_f3 (sz : Int32) : Int64 := ((sz.toInt64 * ((sz - (1 : Int32)).toInt64)) / (2 : Int64))
def own_F3 (Z : State) (x0 : Addr) (sz : Int32) (h0 : Heap) (v : Option Value) (h : Heap) (L : List Loc) : Prop := v = some (.long (own_f3 sz)) ∧ L = [] ∧ h = h0
set_option maxRecDepth 65536 in
set_option maxHeartbeats 40000000 in
theorem own_m3 (l : Launch) (Z : State) (a0 : Array Value) (hw : ∀ d ∈ tables_1, d.before a0 Z = true) (ws : List Jvm.Cond) (x0 : Addr) (sz : Int32) (h0 : Heap) (P0 : Fld Z h0 x0 "com/example/nodus/nodus/FullMesh" "size" "I" (.int sz))  :
    MetFree l (⟨"com/example/nodus/nodus/FullMesh", "links", "()J"⟩ : MethodName) (head1 (Jvm.Cond.code (⟨"com/example/nodus/nodus/FullMesh", "links", "()J"⟩ : MethodName) prog_15_method_3_code 1 (some .long) :: ws) ({ frames := 0, cells := 0, slots := 0, locals := 0 } : Room)) (fun a U => a = #[(.ref x0)] ∧ Z.Warmed39 U.vm ∧ U.heap = h0) (fun _ _ _ _ _ => True) (fun _ U o U' => ∃ v L, o = .returned v ∧ own_F3 Z x0 sz h0 v U'.heap L ∧ FrameEnd U o U' L ({ frames := 0, cells := 0, slots := 0, locals := 0 } : Room).cells ({ frames := 0, cells := 0, slots := 0, locals := 0 } : Room).slots) := by
  refine MetFree.of_bodySF (plainFor_of_name pn_3) hisR ?_
  intro p e s m args below meth c s₁ Bd hml0 hP hK
  obtain ⟨rfl, hZ, hh⟩ := hP
  have hx := Bd.exec
  have hby := Bd.bytes
  have hml : c.maxLocals = 1 := hml0
  have hown : s.vm.findClass "com/example/nodus/nodus/FullMesh" = some m.cls := findClass_of_methodNamed Bd.named
  have hnm := (name_of_methodNamed Bd.named Bd.method).1
  have X0 : Stand p l e ({ frames := 0, cells := 0, slots := 0, locals := 0 } : Room) s m #[(.ref x0)] below meth c s₁ [] 0 0 := Stand.of_body Bd
  have e0 : s₁.heap = h0 := by rw [← hh, Bd.state]; rfl
  have hgo : own_Goes p e below s (own_F3 Z x0 sz h0) 0 0 (s₁.setTop (mkF m 0 #[.val (.ref x0)] [])) := by
    refine own_Goes.step (fun t k => XS.aloadN X0.here hx rfl (hb hby d3_0) rfl rfl k) ?_
    show own_Goes p e below s (own_F3 Z x0 sz h0) 0 0 (s₁.setTop (mkF m 1 #[.val (.ref x0)] [(.ref x0)]))
    obtain ⟨T1, X1, e1, st1⟩ := getF X0 hx hZ hown (host := "") (Or.inl (hw _ (List.mem_of_getElem? (i := 11) rfl))) Via.refl e0 P0 (g := (mkF m 1 #[.val (.ref x0)] [(.ref x0)])) rfl rfl (hb hby d3_1)
    refine own_Goes.step st1 ?_
    show own_Goes p e below s (own_F3 Z x0 sz h0) 0 0 (T1.setTop (mkF m 4 #[.val (.ref x0)] [(.int sz)]))
    refine own_Goes.step (fun t k => XT.i2l X1.here hx rfl (hb hby d3_4) rfl k) ?_
    show own_Goes p e below s (own_F3 Z x0 sz h0) 0 0 (T1.setTop (mkF m 5 #[.val (.ref x0)] [(.long sz.toInt64)]))
    refine own_Goes.step (fun t k => XS.aloadN X1.here hx rfl (hb hby d3_5) rfl rfl k) ?_
    show own_Goes p e below s (own_F3 Z x0 sz h0) 0 0 (T1.setTop (mkF m 6 #[.val (.ref x0)] [(.ref x0), (.long sz.toInt64)]))
    obtain ⟨T2, X2, e2, st2⟩ := getF X1 hx hZ hown (host := "") (Or.inl (hw _ (List.mem_of_getElem? (i := 11) rfl))) Via.refl e1 P0 (g := (mkF m 6 #[.val (.ref x0)] [(.ref x0), (.long sz.toInt64)])) rfl rfl (hb hby d3_6)
    refine own_Goes.step st2 ?_
    show own_Goes p e below s (own_F3 Z x0 sz h0) 0 0 (T2.setTop (mkF m 9 #[.val (.ref x0)] [(.int sz), (.long sz.toInt64)]))
    refine own_Goes.step (fun t k => XT.iconstV X2.here hx rfl (1 : Int32) (hb hby d3_9) (by decide) k) ?_
    show own_Goes p e below s (own_F3 Z x0 sz h0) 0 0 (T2.setTop (mkF m 10 #[.val (.ref x0)] [(.int (1 : Int32)), (.int sz), (.long sz.toInt64)]))
    refine own_Goes.step (fun t k => XS.isub X2.here hx rfl (hb hby d3_10) rfl k) ?_
    show own_Goes p e below s (own_F3 Z x0 sz h0) 0 0 (T2.setTop (mkF m 11 #[.val (.ref x0)] [(.int (sz - (1 : Int32))), (.long sz.toInt64)]))
    refine own_Goes.step (fun t k => XT.i2l X2.here hx rfl (hb hby d3_11) rfl k) ?_
    show own_Goes p e below s (own_F3 Z x0 sz h0) 0 0 (T2.setTop (mkF m 12 #[.val (.ref x0)] [(.long ((sz - (1 : Int32)).toInt64)), (.long sz.toInt64)]))
    refine own_Goes.step (fun t k => XT.lmul X2.here hx rfl (hb hby d3_12) rfl k) ?_
    show own_Goes p e below s (own_F3 Z x0 sz h0) 0 0 (T2.setTop (mkF m 13 #[.val (.ref x0)] [(.long (sz.toInt64 * ((sz - (1 : Int32)).toInt64)))]))
    refine own_Goes.step (fun t k => X2.ldc2J hx hown (mvT hZ (hw _ (List.mem_of_getElem? (i := 18) rfl))) rfl (hb hby d3_13) k) ?_
    show own_Goes p e below s (own_F3 Z x0 sz h0) 0 0 (T2.setTop (mkF m 16 #[.val (.ref x0)] [(.long (2 : Int64)), (.long (sz.toInt64 * ((sz - (1 : Int32)).toInt64)))]))
    refine own_Goes.step (fun t k => XT.ldiv X2.here hx rfl (hb hby d3_16) rfl (by decide) k) ?_
    show own_Goes p e below s (own_F3 Z x0 sz h0) 0 0 (T2.setTop (mkF m 17 #[.val (.ref x0)] [(.long ((sz.toInt64 * ((sz - (1 : Int32)).toInt64)) / (2 : Int64)))]))
    exact own_endJ X2 hx Bd.notSynchronized Bd.returns (hb hby d3_17) ⟨(congrArg (fun z => some (Value.long z)) (show ((sz.toInt64 * ((sz - (1 : Int32)).toInt64)) / (2 : Int64)) = own_f3 sz from by simp only [own_f3])), rfl, e2⟩ (by decide) (by decide)
  obtain ⟨t2, o2, q1, q2, q3, q4⟩ := hgo
  exact ⟨t2, o2, castTop (ef_3 m x0) q1, q2, q3, q4⟩
theorem d1_0 : decode prog_15_method_1_code 0 = .ok (.aload_n 0, 1) := by decide +kernel
theorem d1_1 : decode prog_15_method_1_code 1 = .ok (.invokespecial 1, 3) := by decide +kernel
theorem d1_4 : decode prog_15_method_1_code 4 = .ok (.iload_n 1, 1) := by decide +kernel
theorem d1_5 : decode prog_15_method_1_code 5 = .ok (.iconst 1, 1) := by decide +kernel
theorem d1_6 : decode prog_15_method_1_code 6 = .ok (.if_icmp .ge 17, 3) := by decide +kernel
theorem d1_9 : decode prog_15_method_1_code 9 = .ok (.new 7, 3) := by decide +kernel
theorem d1_12 : decode prog_15_method_1_code 12 = .ok (.dup, 1) := by decide +kernel
theorem d1_13 : decode prog_15_method_1_code 13 = .ok (.iload_n 1, 1) := by decide +kernel
theorem d1_19 : decode prog_15_method_1_code 19 = .ok (.invokespecial 13, 3) := by decide +kernel
theorem d1_22 : decode prog_15_method_1_code 22 = .ok (.athrow, 1) := by decide +kernel
theorem d1_23 : decode prog_15_method_1_code 23 = .ok (.aload_n 0, 1) := by decide +kernel
theorem d1_24 : decode prog_15_method_1_code 24 = .ok (.iload_n 1, 1) := by decide +kernel
theorem d1_25 : decode prog_15_method_1_code 25 = .ok (.putfield 16, 3) := by decide +kernel
theorem d1_28 : decode prog_15_method_1_code 28 = .ok (.return_, 1) := by decide +kernel
theorem pn_1 : plainName "com/example/nodus/nodus/FullMesh" = true := by first | (simp [plainName, overriddenIn]; done) | decide +kernel
theorem pd_1 : parseMethodDescriptor "(I)V" = some ⟨[.int], none⟩ := by decide +kernel
theorem ef_1 (m : MethodId) (x0 : Addr) (x1 : Int32) : entryFrame m #[(.ref x0), (.int x1)] 2 = mkF m 0 #[.val (.ref x0), .val (.int x1)] [] := by first | (simp [entryFrame, mkF, argsToLocals, Value.category]; done) | rfl
def own_f1_size (x1 : Int32) : Int32 := x1
def own_F1 (Z : State) (x0 : Addr) (x1 : Int32)  (n0 : Nat) (h0 : Heap) (v : Option Value) (h : Heap) (L : List Loc) : Prop := v = none ∧ Fr n0 L ∧ Keep h0 h [x0] ∧ Exa Z h x0 "com/example/nodus/nodus/FullMesh" ∧ Fld Z h x0 "com/example/nodus/nodus/FullMesh" "size" "I" (.int (own_f1_size x1))
set_option maxRecDepth 65536 in
set_option maxHeartbeats 40000000 in
theorem own_m1 (l : Launch) (Z : State) (a0 : Array Value) (hw : ∀ d ∈ tables_1, d.before a0 Z = true) (ws : List Jvm.Cond) (x0 : Addr) (x1 : Int32)  (n0 : Nat) (h0 : Heap) (E0 : Exa Z h0 x0 "com/example/nodus/nodus/FullMesh") (g0 : n0 ≤ x0) (P0 : Fld Z h0 x0 "com/example/nodus/nodus/FullMesh" "size" "I" (.int (0 : Int32))) (hpos : ¬ x1 < (1 : Int32)) :
    MetFree l (⟨"com/example/nodus/nodus/FullMesh", "<init>", "(I)V"⟩ : MethodName) (head1 (Jvm.Cond.code (⟨"com/example/nodus/nodus/FullMesh", "<init>", "(I)V"⟩ : MethodName) prog_15_method_1_code 2 none :: ws) ({ frames := 1, cells := 0, slots := 0, locals := 12 } : Room)) (fun a U => a = #[(.ref x0), (.int x1)] ∧ Z.Warmed39 U.vm ∧ U.heap = h0) (fun _ _ _ _ _ => True) (fun _ U o U' => ∃ v L, o = .returned v ∧ own_F1 Z x0 x1 n0 h0 v U'.heap L ∧ FrameEnd U o U' L ({ frames := 1, cells := 0, slots := 0, locals := 12 } : Room).cells ({ frames := 1, cells := 0, slots := 0, locals := 12 } : Room).slots) := by
  refine MetFree.of_bodySF (plainFor_of_name pn_1) hisR ?_
  intro p e s m args below meth c s₁ Bd hml0 hP hK
  obtain ⟨rfl, hZ, hh⟩ := hP
  have hx := Bd.exec
  have hby := Bd.bytes
  have hml : c.maxLocals = 2 := hml0
  have hown : s.vm.findClass "com/example/nodus/nodus/FullMesh" = some m.cls := findClass_of_methodNamed Bd.named
  have hnm := (name_of_methodNamed Bd.named Bd.method).1
  have X0 : Stand p l e ({ frames := 1, cells := 0, slots := 0, locals := 12 } : Room) s m #[(.ref x0), (.int x1)] below meth c s₁ [] 0 0 := Stand.of_body Bd
  have e0 : s₁.heap = h0 := by rw [← hh, Bd.state]; rfl
  have N0 := Fr.nil n0
  have K0 : Keep h0 h0 [x0] := Keep.refl h0 [x0]
  have Z0 : n0 ≤ h0.size := Nat.le_trans g0 (Nat.le_of_lt E0.lt)
  have hgo : own_Goes p e below s (own_F1 Z x0 x1 n0 h0) 0 0 (s₁.setTop (mkF m 0 #[.val (.ref x0), .val (.int x1)] [])) := by
    refine own_Goes.step (fun t k => XS.aloadN X0.here hx rfl (hb hby d1_0) rfl rfl k) ?_
    show own_Goes p e below s (own_F1 Z x0 x1 n0 h0) 0 0 (s₁.setTop (mkF m 1 #[.val (.ref x0), .val (.int x1)] [(.ref x0)]))
    obtain ⟨T1, X1, e1, st1⟩ := initO X0 hx hZ hown (hw _ (List.mem_of_getElem? (i := 8) rfl)) (hw _ (List.mem_of_getElem? (i := 9) rfl)) (hw _ (List.mem_of_getElem? (i := 10) rfl)) e0 (g := (mkF m 1 #[.val (.ref x0), .val (.int x1)] [(.ref x0)])) rfl (by rw [hml]; rfl) rfl (hb hby d1_1) (by decide) (W := 0) (by show 2 * 0 + _ ≤ _; exact Nat.le_of_eq rfl) (by decide)
    refine own_Goes.step st1 ?_
    show own_Goes p e below s (own_F1 Z x0 x1 n0 h0) 0 0 (T1.setTop (mkF m 4 #[.val (.ref x0), .val (.int x1)] []))
    refine own_Goes.step (fun t k => XS.iloadN X1.here hx rfl (hb hby d1_4) rfl k) ?_
    show own_Goes p e below s (own_F1 Z x0 x1 n0 h0) 0 0 (T1.setTop (mkF m 5 #[.val (.ref x0), .val (.int x1)] [(.int x1)]))
    refine own_Goes.step (fun t k => XT.iconstV X1.here hx rfl (1 : Int32) (hb hby d1_5) (by decide) k) ?_
    show own_Goes p e below s (own_F1 Z x0 x1 n0 h0) 0 0 (T1.setTop (mkF m 6 #[.val (.ref x0), .val (.int x1)] [(.int (1 : Int32)), (.int x1)]))
    refine own_Goes.step (fun t k => XS.icmpYes X1.here hx rfl (pc0 := 6) (pc' := 23) rfl (hb hby d1_6) rfl (XT.ii_ge_t (hpos)) (by decide) (by decide) k) ?_
    show own_Goes p e below s (own_F1 Z x0 x1 n0 h0) 0 0 (T1.setTop (mkF m 23 #[.val (.ref x0), .val (.int x1)] []))
    refine own_Goes.step (fun t k => XS.aloadN X1.here hx rfl (hb hby d1_23) rfl rfl k) ?_
    show own_Goes p e below s (own_F1 Z x0 x1 n0 h0) 0 0 (T1.setTop (mkF m 24 #[.val (.ref x0), .val (.int x1)] [(.ref x0)]))
    refine own_Goes.step (fun t k => XS.iloadN X1.here hx rfl (hb hby d1_24) rfl k) ?_
    show own_Goes p e below s (own_F1 Z x0 x1 n0 h0) 0 0 (T1.setTop (mkF m 25 #[.val (.ref x0), .val (.int x1)] [(.int x1), (.ref x0)]))
    obtain ⟨T2, h2, X2, e2, W2, st2⟩ := putF X1 hx hZ hown (host := "") (Or.inl (hw _ (List.mem_of_getElem? (i := 11) rfl))) Via.refl e1 (v := (.int x1)) P0 E0 (Or.inr ⟨(hw _ (List.mem_of_getElem? (i := 12) rfl)), rfl, hnm⟩) (hw _ (List.mem_of_getElem? (i := 3) rfl)) (ty := .int) (by decide) rfl rfl (g := (mkF m 25 #[.val (.ref x0), .val (.int x1)] [(.int x1), (.ref x0)])) rfl rfl (hb hby d1_25)
    refine own_Goes.step st2 ?_
    have f3 := E0.wr W2
    have f4 := P0.same W2
    have K5 := K0.wr W2 (Or.inl (List.mem_of_getElem? (i := 0) rfl))
    have N6 := Fr.snoc X2 N0 g0
    have Z7 : n0 ≤ h2.size := Nat.le_trans Z0 (Keep.of_wr W2).1
    show own_Goes p e below s (own_F1 Z x0 x1 n0 h0) 0 0 (T2.setTop (mkF m 28 #[.val (.ref x0), .val (.int x1)] []))
    refine own_endV X2 hx Bd.notSynchronized Bd.returns (hb hby d1_28) ?_ (by decide) (by decide)
    show own_F1 Z x0 x1 n0 h0 _ T2.heap _
    rw [e2]
    exact ⟨rfl, N6, K5, f3, f4⟩
  obtain ⟨t2, o2, q1, q2, q3, q4⟩ := hgo
  exact ⟨t2, o2, castTop (ef_1 m x0 x1) q1, q2, q3, q4⟩
theorem pn_0 : plainName "com/example/nodus/nodus/FullMeshLinksPinLaw" = true := by first | (simp [plainName, overriddenIn]; done) | decide +kernel
theorem pd_0 : parseMethodDescriptor "(I)Z" = some ⟨[.int], (some .boolean)⟩ := by decide +kernel
theorem ef_0 (m : MethodId) (x0 : Int32) : entryFrame m #[(.int x0)] maxLocals = mkF m 0 #[.val (.int x0), .unset, .unset, .unset, .unset, .unset, .unset, .unset] [] := by first | (simp [entryFrame, mkF, argsToLocals, Value.category, maxLocals]; done) | rfl
def own_f0_1 (x0 : Int32) : Int32 := ((1 : Int32) + ((x0 &&& (2147483647 : Int32)) % (2147483646 : Int32)))
def own_f0 (x0 : Int32) : Int32 := (if (own_f3 (own_f1_size (1 : Int32))) = (0 : Int64) then (if (own_f3 (own_f1_size (own_f0_1 x0))) < (0 : Int64) then (0 : Int32) else (if ((own_f3 (own_f1_size ((own_f0_1 x0) + (1 : Int32)))) - (own_f3 (own_f1_size (own_f0_1 x0)))) = ((own_f0_1 x0).toInt64) then (1 : Int32) else (0 : Int32))) else (0 : Int32))
theorem own_n (x0 : Int32) : 1 ≤ (own_f0_1 x0).toInt ∧ (own_f0_1 x0).toInt ≤ 2147483646 := by
  have a : (x0 &&& (2147483647 : Int32)).toInt = x0.toInt % 2 ^ 31 := Jvm.Kit.i32_mask x0 _ (k := 31) (by decide) (by decide)
  have b : ((x0 &&& (2147483647 : Int32)) % (2147483646 : Int32)).toInt = (x0 &&& (2147483647 : Int32)).toInt % 2147483646 := Jvm.Kit.i32_rem_nonneg (by omega)
  have k1 : (1 : Int32).toInt = 1 := rfl
  unfold own_f0_1
  rw [Jvm.Kit.i32_add (by rw [k1]; omega) (by rw [k1]; omega), k1]
  omega
theorem own_n1 (x0 : Int32) : ¬ own_f0_1 x0 < (1 : Int32) := by
  have h := own_n x0
  have k1 : (1 : Int32).toInt = 1 := rfl
  rw [own_lt32, k1]; omega
theorem own_n2 (x0 : Int32) : ¬ (own_f0_1 x0 + (1 : Int32)) < (1 : Int32) := by
  have h := own_n x0
  have k1 : (1 : Int32).toInt = 1 := rfl
  rw [own_lt32, Jvm.Kit.i32_add (by rw [k1]; omega) (by rw [k1]; omega), k1]; omega
def own_F0 (Z : State) (x0 : Int32)  (n0 : Nat) (h0 : Heap) (v : Option Value) (h : Heap) (L : List Loc) : Prop := v = some (.int (own_f0 x0)) ∧ Fr n0 L
set_option maxRecDepth 65536 in
set_option maxHeartbeats 40000000 in
theorem own_m0 (l : Launch) (Z : State) (a0 : Array Value) (hw : ∀ d ∈ tables_1, d.before a0 Z = true) (ws : List Jvm.Cond) (x0 : Int32)  (n0 : Nat) (h0 : Heap) (Z0 : n0 ≤ h0.size)   :
    MetFree l x (head1 (Jvm.Cond.code x code maxLocals ret :: ws) room_1) (fun a U => a = #[(.int x0)] ∧ Z.Warmed39 U.vm ∧ U.heap = h0) (fun _ _ _ _ _ => True) (fun _ U o U' => ∃ v L, o = .returned v ∧ own_F0 Z x0 n0 h0 v U'.heap L ∧ FrameEnd U o U' L room_1.cells room_1.slots) := by
  refine MetFree.of_bodySF (plainFor_of_name pn_0) hisR ?_
  intro p e s m args below meth c s₁ Bd hml0 hP hK
  obtain ⟨rfl, hZ, hh⟩ := hP
  have hx := Bd.exec
  have hby := Bd.bytes
  have hml : c.maxLocals = 8 := hml0
  have hown : s.vm.findClass "com/example/nodus/nodus/FullMeshLinksPinLaw" = some m.cls := findClass_of_methodNamed Bd.named
  have hnm := (name_of_methodNamed Bd.named Bd.method).1
  have X0 : Stand p l e room_1 s m #[(.int x0)] below meth c s₁ [] 0 0 := Stand.of_body Bd
  have e0 : s₁.heap = h0 := by rw [← hh, Bd.state]; rfl
  have N0 := Fr.nil n0
  have K0 : Keep h0 h0 [] := Keep.refl h0 []
  have hgo : own_Goes p e below s (own_F0 Z x0 n0 h0) room_1.cells room_1.slots (s₁.setTop (mkF m 0 #[.val (.int x0), .unset, .unset, .unset, .unset, .unset, .unset, .unset] [])) := by
    refine own_Goes.step (fun t k => XT.iconstV X0.here hx rfl (1 : Int32) (hb hby at_0) (by decide) k) ?_
    show own_Goes p e below s (own_F0 Z x0 n0 h0) room_1.cells room_1.slots (s₁.setTop (mkF m 1 #[.val (.int x0), .unset, .unset, .unset, .unset, .unset, .unset, .unset] [(.int (1 : Int32))]))
    refine own_Goes.step (fun t k => XS.iloadN X0.here hx rfl (hb hby at_1) rfl k) ?_
    show own_Goes p e below s (own_F0 Z x0 n0 h0) room_1.cells room_1.slots (s₁.setTop (mkF m 2 #[.val (.int x0), .unset, .unset, .unset, .unset, .unset, .unset, .unset] [(.int x0), (.int (1 : Int32))]))
    refine own_Goes.step (fun t k => X0.ldcI hx hown (mvT hZ (hw _ (List.mem_of_getElem? (i := 0) rfl))) rfl (hb hby at_2) k) ?_
    show own_Goes p e below s (own_F0 Z x0 n0 h0) room_1.cells room_1.slots (s₁.setTop (mkF m 4 #[.val (.int x0), .unset, .unset, .unset, .unset, .unset, .unset, .unset] [(.int (2147483647 : Int32)), (.int x0), (.int (1 : Int32))]))
    refine own_Goes.step (fun t k => XS.iand X0.here hx rfl (hb hby at_4) rfl k) ?_
    show own_Goes p e below s (own_F0 Z x0 n0 h0) room_1.cells room_1.slots (s₁.setTop (mkF m 5 #[.val (.int x0), .unset, .unset, .unset, .unset, .unset, .unset, .unset] [(.int (x0 &&& (2147483647 : Int32))), (.int (1 : Int32))]))
    refine own_Goes.step (fun t k => X0.ldcI hx hown (mvT hZ (hw _ (List.mem_of_getElem? (i := 1) rfl))) rfl (hb hby at_5) k) ?_
    show own_Goes p e below s (own_F0 Z x0 n0 h0) room_1.cells room_1.slots (s₁.setTop (mkF m 7 #[.val (.int x0), .unset, .unset, .unset, .unset, .unset, .unset, .unset] [(.int (2147483646 : Int32)), (.int (x0 &&& (2147483647 : Int32))), (.int (1 : Int32))]))
    refine own_Goes.step (fun t k => iremM X0 hx rfl (hb hby at_7) rfl (by decide) k) ?_
    show own_Goes p e below s (own_F0 Z x0 n0 h0) room_1.cells room_1.slots (s₁.setTop (mkF m 8 #[.val (.int x0), .unset, .unset, .unset, .unset, .unset, .unset, .unset] [(.int ((x0 &&& (2147483647 : Int32)) % (2147483646 : Int32))), (.int (1 : Int32))]))
    refine own_Goes.step (fun t k => XS.iadd X0.here hx rfl (hb hby at_8) rfl k) ?_
    show own_Goes p e below s (own_F0 Z x0 n0 h0) room_1.cells room_1.slots (s₁.setTop (mkF m 9 #[.val (.int x0), .unset, .unset, .unset, .unset, .unset, .unset, .unset] [(.int ((1 : Int32) + ((x0 &&& (2147483647 : Int32)) % (2147483646 : Int32))))]))
    refine own_Goes.step (fun t k => XS.istoreN X0.here hx rfl (hb hby at_9) rfl (l' := #[.val (.int x0), .val (.int (own_f0_1 x0)), .unset, .unset, .unset, .unset, .unset, .unset]) rfl k) ?_
    show own_Goes p e below s (own_F0 Z x0 n0 h0) room_1.cells room_1.slots (s₁.setTop (mkF m 10 #[.val (.int x0), .val (.int (own_f0_1 x0)), .unset, .unset, .unset, .unset, .unset, .unset] []))
    obtain ⟨T1, h1, X1, e1, E1, A1, D1, -, st1⟩ := newO X0 hx hZ hown (hw _ (List.mem_of_getElem? (i := 2) rfl)) (hw _ (List.mem_of_getElem? (i := 3) rfl)) (hw _ (List.mem_of_getElem? (i := 4) rfl)) e0 (g := (mkF m 10 #[.val (.int x0), .val (.int (own_f0_1 x0)), .unset, .unset, .unset, .unset, .unset, .unset] [])) rfl (hb hby at_10) (by decide) (by decide)
    obtain ⟨a1, g1⟩ : ∃ z, z = h0.size := ⟨_, rfl⟩
    rw [← g1] at A1 D1 st1
    have f2 : Fld Z h1 a1 "com/example/nodus/nodus/FullMesh" "size" "I" (.int (0 : Int32)) := D1 (Or.inr (hw _ (List.mem_of_getElem? (i := 12) rfl))) (ty := .int) (by decide)
    have ga1 : n0 ≤ a1 := Nat.le_trans Z0 (Nat.le_of_eq g1.symm)
    have Z1 : n0 ≤ h1.size := Nat.le_trans Z0 E1.1
    have K1 := K0.ext E1
    have Kh1 : h0.size ≤ a1 := Nat.le_trans K0.1 (Nat.le_of_eq g1.symm)
    refine own_Goes.step st1 ?_
    show own_Goes p e below s (own_F0 Z x0 n0 h0) room_1.cells room_1.slots (T1.setTop (mkF m 13 #[.val (.int x0), .val (.int (own_f0_1 x0)), .unset, .unset, .unset, .unset, .unset, .unset] [(.ref a1)]))
    refine own_Goes.step (fun t k => XS.dup X1.here hx rfl (hb hby at_13) rfl rfl k) ?_
    show own_Goes p e below s (own_F0 Z x0 n0 h0) room_1.cells room_1.slots (T1.setTop (mkF m 14 #[.val (.int x0), .val (.int (own_f0_1 x0)), .unset, .unset, .unset, .unset, .unset, .unset] [(.ref a1), (.ref a1)]))
    refine own_Goes.step (fun t k => XT.iconstV X1.here hx rfl (1 : Int32) (hb hby at_14) (by decide) k) ?_
    show own_Goes p e below s (own_F0 Z x0 n0 h0) room_1.cells room_1.slots (T1.setTop (mkF m 15 #[.val (.int x0), .val (.int (own_f0_1 x0)), .unset, .unset, .unset, .unset, .unset, .unset] [(.int (1 : Int32)), (.ref a1), (.ref a1)]))
    obtain ⟨w4, T4, L4, q4, Y4, st4⟩ := own_spec X1 hx hZ e1 rfl hown (hw _ (List.mem_of_getElem? (i := 5) rfl)) (hw _ (List.mem_of_getElem? (i := 6) rfl)) (hw _ (List.mem_of_getElem? (i := 4) rfl)) (hw _ (List.mem_of_getElem? (i := 7) rfl)) (by decide) (own_m1 l Z a0 hw [] a1 (1 : Int32) n0 h1 A1 ga1 f2 (by decide) ) (by decide) (W := 1) (by decide) (by decide) (by decide) (g := (mkF m 15 #[.val (.int x0), .val (.int (own_f0_1 x0)), .unset, .unset, .unset, .unset, .unset, .unset] [(.int (1 : Int32)), (.ref a1), (.ref a1)])) rfl (by rw [hml]; rfl) (a := a1) (argsL := [(.int (1 : Int32))]) (rest := [(.ref a1)]) (lenOf pd_1 rfl) rfl (by show 2 * 0 + _ ≤ _; exact Nat.le_of_eq rfl) (hb hby at_15)
    obtain ⟨rfl, N4, K4, E4, c4_0⟩ := q4
    have N7 := Fr.app N0 N4
    have Z8 : n0 ≤ T4.heap.size := Nat.le_trans Z1 K4.1
    have K9 := K1.trans K4 (own_kt (Or.inr Kh1))
    refine own_Goes.step st4 ?_
    show own_Goes p e below s (own_F0 Z x0 n0 h0) room_1.cells room_1.slots (T4.setTop (mkF m 18 #[.val (.int x0), .val (.int (own_f0_1 x0)), .unset, .unset, .unset, .unset, .unset, .unset] [(.ref a1)]))
    obtain ⟨w10, T10, L10, q10, Y10, st10⟩ := own_virt Y4 hx hZ rfl E4 hown (hw _ (List.mem_of_getElem? (i := 13) rfl)) (hw _ (List.mem_of_getElem? (i := 14) rfl)) (hw _ (List.mem_of_getElem? (i := 16) rfl)) (hw _ (List.mem_of_getElem? (i := 15) rfl)) (hw _ (List.mem_of_getElem? (i := 4) rfl)) (hw _ (List.mem_of_getElem? (i := 17) rfl)) (by decide) (own_m3 l Z a0 hw [] a1 (own_f1_size (1 : Int32)) T4.heap c4_0 ) (by decide) (W := 0) (by decide) (by decide) (by decide) (g := (mkF m 18 #[.val (.int x0), .val (.int (own_f0_1 x0)), .unset, .unset, .unset, .unset, .unset, .unset] [(.ref a1)])) rfl (by rw [hml]; rfl) (argsL := []) (rest := []) (lenOf pd_3 rfl) rfl (by show 2 * 0 + _ ≤ _; exact Nat.le_of_eq rfl) (hb hby at_18)
    obtain ⟨e10, X10⟩ := own_clean q10 Y10 rfl rfl
    obtain ⟨rfl, -, -⟩ := q10
    refine own_Goes.step st10 ?_
    show own_Goes p e below s (own_F0 Z x0 n0 h0) room_1.cells room_1.slots (T10.setTop (mkF m 21 #[.val (.int x0), .val (.int (own_f0_1 x0)), .unset, .unset, .unset, .unset, .unset, .unset] [(.long (own_f3 (own_f1_size (1 : Int32))))]))
    refine own_Goes.step (fun t k => XT.lstoreN X10.here hx rfl (hb hby at_21) rfl (l' := #[.val (.int x0), .val (.int (own_f0_1 x0)), .val (.long (own_f3 (own_f1_size (1 : Int32)))), .second, .unset, .unset, .unset, .unset]) rfl k) ?_
    show own_Goes p e below s (own_F0 Z x0 n0 h0) room_1.cells room_1.slots (T10.setTop (mkF m 22 #[.val (.int x0), .val (.int (own_f0_1 x0)), .val (.long (own_f3 (own_f1_size (1 : Int32)))), .second, .unset, .unset, .unset, .unset] []))
    obtain ⟨T11, h11, X11, e11, E11, A11, D11, -, st11⟩ := newO X10 hx hZ hown (hw _ (List.mem_of_getElem? (i := 2) rfl)) (hw _ (List.mem_of_getElem? (i := 3) rfl)) (hw _ (List.mem_of_getElem? (i := 4) rfl)) e10 (g := (mkF m 22 #[.val (.int x0), .val (.int (own_f0_1 x0)), .val (.long (own_f3 (own_f1_size (1 : Int32)))), .second, .unset, .unset, .unset, .unset] [])) rfl (hb hby at_22) (by decide) (by decide)
    obtain ⟨a11, g11⟩ : ∃ z, z = T4.heap.size := ⟨_, rfl⟩
    rw [← g11] at A11 D11 st11
    have ne12 : a1 ≠ a11 := by rw [g11]; exact Nat.ne_of_lt E4.lt
    have f13 := Jvm.RoadKit.Exa.ext E11 E4
    have f14 := Jvm.RoadKit.Fld.ext E11 c4_0
    have f15 : Fld Z h11 a11 "com/example/nodus/nodus/FullMesh" "size" "I" (.int (0 : Int32)) := D11 (Or.inr (hw _ (List.mem_of_getElem? (i := 12) rfl))) (ty := .int) (by decide)
    have ga11 : n0 ≤ a11 := Nat.le_trans Z8 (Nat.le_of_eq g11.symm)
    have Z11 : n0 ≤ h11.size := Nat.le_trans Z8 E11.1
    have K11 := K9.ext E11
    have Kh11 : h0.size ≤ a11 := Nat.le_trans K9.1 (Nat.le_of_eq g11.symm)
    refine own_Goes.step st11 ?_
    show own_Goes p e below s (own_F0 Z x0 n0 h0) room_1.cells room_1.slots (T11.setTop (mkF m 25 #[.val (.int x0), .val (.int (own_f0_1 x0)), .val (.long (own_f3 (own_f1_size (1 : Int32)))), .second, .unset, .unset, .unset, .unset] [(.ref a11)]))
    refine own_Goes.step (fun t k => XS.dup X11.here hx rfl (hb hby at_25) rfl rfl k) ?_
    show own_Goes p e below s (own_F0 Z x0 n0 h0) room_1.cells room_1.slots (T11.setTop (mkF m 26 #[.val (.int x0), .val (.int (own_f0_1 x0)), .val (.long (own_f3 (own_f1_size (1 : Int32)))), .second, .unset, .unset, .unset, .unset] [(.ref a11), (.ref a11)]))
    refine own_Goes.step (fun t k => XS.iloadN X11.here hx rfl (hb hby at_26) rfl k) ?_
    show own_Goes p e below s (own_F0 Z x0 n0 h0) room_1.cells room_1.slots (T11.setTop (mkF m 27 #[.val (.int x0), .val (.int (own_f0_1 x0)), .val (.long (own_f3 (own_f1_size (1 : Int32)))), .second, .unset, .unset, .unset, .unset] [(.int (own_f0_1 x0)), (.ref a11), (.ref a11)]))
    obtain ⟨w17, T17, L17, q17, Y17, st17⟩ := own_spec X11 hx hZ e11 rfl hown (hw _ (List.mem_of_getElem? (i := 5) rfl)) (hw _ (List.mem_of_getElem? (i := 6) rfl)) (hw _ (List.mem_of_getElem? (i := 4) rfl)) (hw _ (List.mem_of_getElem? (i := 7) rfl)) (by decide) (own_m1 l Z a0 hw [] a11 (own_f0_1 x0) n0 h11 A11 ga11 f15 (own_n1 x0) ) (by decide) (W := 1) (by decide) (by decide) (by decide) (g := (mkF m 27 #[.val (.int x0), .val (.int (own_f0_1 x0)), .val (.long (own_f3 (own_f1_size (1 : Int32)))), .second, .unset, .unset, .unset, .unset] [(.int (own_f0_1 x0)), (.ref a11), (.ref a11)])) rfl (by rw [hml]; rfl) (a := a11) (argsL := [(.int (own_f0_1 x0))]) (rest := [(.ref a11)]) (lenOf pd_1 rfl) rfl (by show 2 * 0 + _ ≤ _; exact Nat.le_of_eq rfl) (hb hby at_27)
    obtain ⟨rfl, N17, K17, E17, c17_0⟩ := q17
    have f18 := f13.keep K17
    have f19 := f14.keep K17 (own_nin ne12)
    have N22 := Fr.app N7 N17
    have Z23 : n0 ≤ T17.heap.size := Nat.le_trans Z11 K17.1
    have K24 := K11.trans K17 (own_kt (Or.inr Kh11))
    refine own_Goes.step st17 ?_
    show own_Goes p e below s (own_F0 Z x0 n0 h0) room_1.cells room_1.slots (T17.setTop (mkF m 30 #[.val (.int x0), .val (.int (own_f0_1 x0)), .val (.long (own_f3 (own_f1_size (1 : Int32)))), .second, .unset, .unset, .unset, .unset] [(.ref a11)]))
    obtain ⟨w25, T25, L25, q25, Y25, st25⟩ := own_virt Y17 hx hZ rfl E17 hown (hw _ (List.mem_of_getElem? (i := 13) rfl)) (hw _ (List.mem_of_getElem? (i := 14) rfl)) (hw _ (List.mem_of_getElem? (i := 16) rfl)) (hw _ (List.mem_of_getElem? (i := 15) rfl)) (hw _ (List.mem_of_getElem? (i := 4) rfl)) (hw _ (List.mem_of_getElem? (i := 17) rfl)) (by decide) (own_m3 l Z a0 hw [] a11 (own_f1_size (own_f0_1 x0)) T17.heap c17_0 ) (by decide) (W := 0) (by decide) (by decide) (by decide) (g := (mkF m 30 #[.val (.int x0), .val (.int (own_f0_1 x0)), .val (.long (own_f3 (own_f1_size (1 : Int32)))), .second, .unset, .unset, .unset, .unset] [(.ref a11)])) rfl (by rw [hml]; rfl) (argsL := []) (rest := []) (lenOf pd_3 rfl) rfl (by show 2 * 0 + _ ≤ _; exact Nat.le_of_eq rfl) (hb hby at_30)
    obtain ⟨e25, X25⟩ := own_clean q25 Y25 rfl rfl
    obtain ⟨rfl, -, -⟩ := q25
    refine own_Goes.step st25 ?_
    show own_Goes p e below s (own_F0 Z x0 n0 h0) room_1.cells room_1.slots (T25.setTop (mkF m 33 #[.val (.int x0), .val (.int (own_f0_1 x0)), .val (.long (own_f3 (own_f1_size (1 : Int32)))), .second, .unset, .unset, .unset, .unset] [(.long (own_f3 (own_f1_size (own_f0_1 x0))))]))
    refine own_Goes.step (fun t k => XT.lstore X25.here hx rfl (hb hby at_33) rfl (l' := #[.val (.int x0), .val (.int (own_f0_1 x0)), .val (.long (own_f3 (own_f1_size (1 : Int32)))), .second, .val (.long (own_f3 (own_f1_size (own_f0_1 x0)))), .second, .unset, .unset]) rfl k) ?_
    show own_Goes p e below s (own_F0 Z x0 n0 h0) room_1.cells room_1.slots (T25.setTop (mkF m 35 #[.val (.int x0), .val (.int (own_f0_1 x0)), .val (.long (own_f3 (own_f1_size (1 : Int32)))), .second, .val (.long (own_f3 (own_f1_size (own_f0_1 x0)))), .second, .unset, .unset] []))
    obtain ⟨T26, h26, X26, e26, E26, A26, D26, -, st26⟩ := newO X25 hx hZ hown (hw _ (List.mem_of_getElem? (i := 2) rfl)) (hw _ (List.mem_of_getElem? (i := 3) rfl)) (hw _ (List.mem_of_getElem? (i := 4) rfl)) e25 (g := (mkF m 35 #[.val (.int x0), .val (.int (own_f0_1 x0)), .val (.long (own_f3 (own_f1_size (1 : Int32)))), .second, .val (.long (own_f3 (own_f1_size (own_f0_1 x0)))), .second, .unset, .unset] [])) rfl (hb hby at_35) (by decide) (by decide)
    obtain ⟨a26, g26⟩ : ∃ z, z = T17.heap.size := ⟨_, rfl⟩
    rw [← g26] at A26 D26 st26
    have ne27 : a1 ≠ a26 := by rw [g26]; exact Nat.ne_of_lt f18.lt
    have ne28 : a11 ≠ a26 := by rw [g26]; exact Nat.ne_of_lt E17.lt
    have f29 := Jvm.RoadKit.Exa.ext E26 f18
    have f30 := Jvm.RoadKit.Fld.ext E26 f19
    have f31 := Jvm.RoadKit.Exa.ext E26 E17
    have f32 := Jvm.RoadKit.Fld.ext E26 c17_0
    have f33 : Fld Z h26 a26 "com/example/nodus/nodus/FullMesh" "size" "I" (.int (0 : Int32)) := D26 (Or.inr (hw _ (List.mem_of_getElem? (i := 12) rfl))) (ty := .int) (by decide)
    have ga26 : n0 ≤ a26 := Nat.le_trans Z23 (Nat.le_of_eq g26.symm)
    have Z26 : n0 ≤ h26.size := Nat.le_trans Z23 E26.1
    have K26 := K24.ext E26
    have Kh26 : h0.size ≤ a26 := Nat.le_trans K24.1 (Nat.le_of_eq g26.symm)
    refine own_Goes.step st26 ?_
    show own_Goes p e below s (own_F0 Z x0 n0 h0) room_1.cells room_1.slots (T26.setTop (mkF m 38 #[.val (.int x0), .val (.int (own_f0_1 x0)), .val (.long (own_f3 (own_f1_size (1 : Int32)))), .second, .val (.long (own_f3 (own_f1_size (own_f0_1 x0)))), .second, .unset, .unset] [(.ref a26)]))
    refine own_Goes.step (fun t k => XS.dup X26.here hx rfl (hb hby at_38) rfl rfl k) ?_
    show own_Goes p e below s (own_F0 Z x0 n0 h0) room_1.cells room_1.slots (T26.setTop (mkF m 39 #[.val (.int x0), .val (.int (own_f0_1 x0)), .val (.long (own_f3 (own_f1_size (1 : Int32)))), .second, .val (.long (own_f3 (own_f1_size (own_f0_1 x0)))), .second, .unset, .unset] [(.ref a26), (.ref a26)]))
    refine own_Goes.step (fun t k => XS.iloadN X26.here hx rfl (hb hby at_39) rfl k) ?_
    show own_Goes p e below s (own_F0 Z x0 n0 h0) room_1.cells room_1.slots (T26.setTop (mkF m 40 #[.val (.int x0), .val (.int (own_f0_1 x0)), .val (.long (own_f3 (own_f1_size (1 : Int32)))), .second, .val (.long (own_f3 (own_f1_size (own_f0_1 x0)))), .second, .unset, .unset] [(.int (own_f0_1 x0)), (.ref a26), (.ref a26)]))
    refine own_Goes.step (fun t k => XT.iconstV X26.here hx rfl (1 : Int32) (hb hby at_40) (by decide) k) ?_
    show own_Goes p e below s (own_F0 Z x0 n0 h0) room_1.cells room_1.slots (T26.setTop (mkF m 41 #[.val (.int x0), .val (.int (own_f0_1 x0)), .val (.long (own_f3 (own_f1_size (1 : Int32)))), .second, .val (.long (own_f3 (own_f1_size (own_f0_1 x0)))), .second, .unset, .unset] [(.int (1 : Int32)), (.int (own_f0_1 x0)), (.ref a26), (.ref a26)]))
    refine own_Goes.step (fun t k => XS.iadd X26.here hx rfl (hb hby at_41) rfl k) ?_
    show own_Goes p e below s (own_F0 Z x0 n0 h0) room_1.cells room_1.slots (T26.setTop (mkF m 42 #[.val (.int x0), .val (.int (own_f0_1 x0)), .val (.long (own_f3 (own_f1_size (1 : Int32)))), .second, .val (.long (own_f3 (own_f1_size (own_f0_1 x0)))), .second, .unset, .unset] [(.int ((own_f0_1 x0) + (1 : Int32))), (.ref a26), (.ref a26)]))
    obtain ⟨w35, T35, L35, q35, Y35, st35⟩ := own_spec X26 hx hZ e26 rfl hown (hw _ (List.mem_of_getElem? (i := 5) rfl)) (hw _ (List.mem_of_getElem? (i := 6) rfl)) (hw _ (List.mem_of_getElem? (i := 4) rfl)) (hw _ (List.mem_of_getElem? (i := 7) rfl)) (by decide) (own_m1 l Z a0 hw [] a26 ((own_f0_1 x0) + (1 : Int32)) n0 h26 A26 ga26 f33 (own_n2 x0) ) (by decide) (W := 1) (by decide) (by decide) (by decide) (g := (mkF m 42 #[.val (.int x0), .val (.int (own_f0_1 x0)), .val (.long (own_f3 (own_f1_size (1 : Int32)))), .second, .val (.long (own_f3 (own_f1_size (own_f0_1 x0)))), .second, .unset, .unset] [(.int ((own_f0_1 x0) + (1 : Int32))), (.ref a26), (.ref a26)])) rfl (by rw [hml]; rfl) (a := a26) (argsL := [(.int ((own_f0_1 x0) + (1 : Int32)))]) (rest := [(.ref a26)]) (lenOf pd_1 rfl) rfl (by show 2 * 0 + _ ≤ _; exact Nat.le_of_eq rfl) (hb hby at_42)
    obtain ⟨rfl, N35, K35, E35, c35_0⟩ := q35
    have f36 := f29.keep K35
    have f37 := f30.keep K35 (own_nin ne27)
    have f38 := f31.keep K35
    have f39 := f32.keep K35 (own_nin ne28)
    have N42 := Fr.app N22 N35
    have Z43 : n0 ≤ T35.heap.size := Nat.le_trans Z26 K35.1
    have K44 := K26.trans K35 (own_kt (Or.inr Kh26))
    refine own_Goes.step st35 ?_
    show own_Goes p e below s (own_F0 Z x0 n0 h0) room_1.cells room_1.slots (T35.setTop (mkF m 45 #[.val (.int x0), .val (.int (own_f0_1 x0)), .val (.long (own_f3 (own_f1_size (1 : Int32)))), .second, .val (.long (own_f3 (own_f1_size (own_f0_1 x0)))), .second, .unset, .unset] [(.ref a26)]))
    obtain ⟨w45, T45, L45, q45, Y45, st45⟩ := own_virt Y35 hx hZ rfl E35 hown (hw _ (List.mem_of_getElem? (i := 13) rfl)) (hw _ (List.mem_of_getElem? (i := 14) rfl)) (hw _ (List.mem_of_getElem? (i := 16) rfl)) (hw _ (List.mem_of_getElem? (i := 15) rfl)) (hw _ (List.mem_of_getElem? (i := 4) rfl)) (hw _ (List.mem_of_getElem? (i := 17) rfl)) (by decide) (own_m3 l Z a0 hw [] a26 (own_f1_size ((own_f0_1 x0) + (1 : Int32))) T35.heap c35_0 ) (by decide) (W := 0) (by decide) (by decide) (by decide) (g := (mkF m 45 #[.val (.int x0), .val (.int (own_f0_1 x0)), .val (.long (own_f3 (own_f1_size (1 : Int32)))), .second, .val (.long (own_f3 (own_f1_size (own_f0_1 x0)))), .second, .unset, .unset] [(.ref a26)])) rfl (by rw [hml]; rfl) (argsL := []) (rest := []) (lenOf pd_3 rfl) rfl (by show 2 * 0 + _ ≤ _; exact Nat.le_of_eq rfl) (hb hby at_45)
    obtain ⟨e45, X45⟩ := own_clean q45 Y45 rfl rfl
    obtain ⟨rfl, -, -⟩ := q45
    refine own_Goes.step st45 ?_
    show own_Goes p e below s (own_F0 Z x0 n0 h0) room_1.cells room_1.slots (T45.setTop (mkF m 48 #[.val (.int x0), .val (.int (own_f0_1 x0)), .val (.long (own_f3 (own_f1_size (1 : Int32)))), .second, .val (.long (own_f3 (own_f1_size (own_f0_1 x0)))), .second, .unset, .unset] [(.long (own_f3 (own_f1_size ((own_f0_1 x0) + (1 : Int32)))))]))
    refine own_Goes.step (fun t k => XT.lstore X45.here hx rfl (hb hby at_48) rfl (l' := #[.val (.int x0), .val (.int (own_f0_1 x0)), .val (.long (own_f3 (own_f1_size (1 : Int32)))), .second, .val (.long (own_f3 (own_f1_size (own_f0_1 x0)))), .second, .val (.long (own_f3 (own_f1_size ((own_f0_1 x0) + (1 : Int32))))), .second]) rfl k) ?_
    show own_Goes p e below s (own_F0 Z x0 n0 h0) room_1.cells room_1.slots (T45.setTop (mkF m 50 #[.val (.int x0), .val (.int (own_f0_1 x0)), .val (.long (own_f3 (own_f1_size (1 : Int32)))), .second, .val (.long (own_f3 (own_f1_size (own_f0_1 x0)))), .second, .val (.long (own_f3 (own_f1_size ((own_f0_1 x0) + (1 : Int32))))), .second] []))
    refine own_Goes.step (fun t k => XT.lloadN X45.here hx rfl (hb hby at_50) rfl k) ?_
    show own_Goes p e below s (own_F0 Z x0 n0 h0) room_1.cells room_1.slots (T45.setTop (mkF m 51 #[.val (.int x0), .val (.int (own_f0_1 x0)), .val (.long (own_f3 (own_f1_size (1 : Int32)))), .second, .val (.long (own_f3 (own_f1_size (own_f0_1 x0)))), .second, .val (.long (own_f3 (own_f1_size ((own_f0_1 x0) + (1 : Int32))))), .second] [(.long (own_f3 (own_f1_size (1 : Int32))))]))
    refine own_Goes.step (fun t k => XT.lconstV X45.here hx rfl (0 : Int64) (hb hby at_51) (by decide) k) ?_
    show own_Goes p e below s (own_F0 Z x0 n0 h0) room_1.cells room_1.slots (T45.setTop (mkF m 52 #[.val (.int x0), .val (.int (own_f0_1 x0)), .val (.long (own_f3 (own_f1_size (1 : Int32)))), .second, .val (.long (own_f3 (own_f1_size (own_f0_1 x0)))), .second, .val (.long (own_f3 (own_f1_size ((own_f0_1 x0) + (1 : Int32))))), .second] [(.long (0 : Int64)), (.long (own_f3 (own_f1_size (1 : Int32))))]))
    refine own_Goes.step (fun t k => XT.lcmp X45.here hx rfl (hb hby at_52) rfl k) ?_
    show own_Goes p e below s (own_F0 Z x0 n0 h0) room_1.cells room_1.slots (T45.setTop (mkF m 53 #[.val (.int x0), .val (.int (own_f0_1 x0)), .val (.long (own_f3 (own_f1_size (1 : Int32)))), .second, .val (.long (own_f3 (own_f1_size (own_f0_1 x0)))), .second, .val (.long (own_f3 (own_f1_size ((own_f0_1 x0) + (1 : Int32))))), .second] [(.int (XT.cmpL (own_f3 (own_f1_size (1 : Int32))) (0 : Int64)))]))
    by_cases hc46 : (own_f3 (own_f1_size (1 : Int32))) = (0 : Int64)
    · refine own_Goes.step (fun t k => XS.ifNo X45.here hx rfl (hb hby at_53) rfl (XT.ll_ne_f hc46) k) ?_
      show own_Goes p e below s (own_F0 Z x0 n0 h0) room_1.cells room_1.slots (T45.setTop (mkF m 56 #[.val (.int x0), .val (.int (own_f0_1 x0)), .val (.long (own_f3 (own_f1_size (1 : Int32)))), .second, .val (.long (own_f3 (own_f1_size (own_f0_1 x0)))), .second, .val (.long (own_f3 (own_f1_size ((own_f0_1 x0) + (1 : Int32))))), .second] []))
      refine own_Goes.step (fun t k => XT.lload X45.here hx rfl (hb hby at_56) rfl k) ?_
      show own_Goes p e below s (own_F0 Z x0 n0 h0) room_1.cells room_1.slots (T45.setTop (mkF m 58 #[.val (.int x0), .val (.int (own_f0_1 x0)), .val (.long (own_f3 (own_f1_size (1 : Int32)))), .second, .val (.long (own_f3 (own_f1_size (own_f0_1 x0)))), .second, .val (.long (own_f3 (own_f1_size ((own_f0_1 x0) + (1 : Int32))))), .second] [(.long (own_f3 (own_f1_size (own_f0_1 x0))))]))
      refine own_Goes.step (fun t k => XT.lconstV X45.here hx rfl (0 : Int64) (hb hby at_58) (by decide) k) ?_
      show own_Goes p e below s (own_F0 Z x0 n0 h0) room_1.cells room_1.slots (T45.setTop (mkF m 59 #[.val (.int x0), .val (.int (own_f0_1 x0)), .val (.long (own_f3 (own_f1_size (1 : Int32)))), .second, .val (.long (own_f3 (own_f1_size (own_f0_1 x0)))), .second, .val (.long (own_f3 (own_f1_size ((own_f0_1 x0) + (1 : Int32))))), .second] [(.long (0 : Int64)), (.long (own_f3 (own_f1_size (own_f0_1 x0))))]))
      refine own_Goes.step (fun t k => XT.lcmp X45.here hx rfl (hb hby at_59) rfl k) ?_
      show own_Goes p e below s (own_F0 Z x0 n0 h0) room_1.cells room_1.slots (T45.setTop (mkF m 60 #[.val (.int x0), .val (.int (own_f0_1 x0)), .val (.long (own_f3 (own_f1_size (1 : Int32)))), .second, .val (.long (own_f3 (own_f1_size (own_f0_1 x0)))), .second, .val (.long (own_f3 (own_f1_size ((own_f0_1 x0) + (1 : Int32))))), .second] [(.int (XT.cmpL (own_f3 (own_f1_size (own_f0_1 x0))) (0 : Int64)))]))
      by_cases hc47 : (own_f3 (own_f1_size (own_f0_1 x0))) < (0 : Int64)
      · refine own_Goes.step (fun t k => XS.ifYes X45.here hx rfl (pc0 := 60) (pc' := 78) rfl (hb hby at_60) rfl (XT.ll_lt_t hc47) (by decide) (by decide) k) ?_
        show own_Goes p e below s (own_F0 Z x0 n0 h0) room_1.cells room_1.slots (T45.setTop (mkF m 78 #[.val (.int x0), .val (.int (own_f0_1 x0)), .val (.long (own_f3 (own_f1_size (1 : Int32)))), .second, .val (.long (own_f3 (own_f1_size (own_f0_1 x0)))), .second, .val (.long (own_f3 (own_f1_size ((own_f0_1 x0) + (1 : Int32))))), .second] []))
        refine own_Goes.step (fun t k => XT.iconstV X45.here hx rfl (0 : Int32) (hb hby at_78) (by decide) k) ?_
        show own_Goes p e below s (own_F0 Z x0 n0 h0) room_1.cells room_1.slots (T45.setTop (mkF m 79 #[.val (.int x0), .val (.int (own_f0_1 x0)), .val (.long (own_f3 (own_f1_size (1 : Int32)))), .second, .val (.long (own_f3 (own_f1_size (own_f0_1 x0)))), .second, .val (.long (own_f3 (own_f1_size ((own_f0_1 x0) + (1 : Int32))))), .second] [(.int (0 : Int32))]))
        exact own_endN X45 hx Bd.notSynchronized (t := .boolean) Bd.returns (by simp) (hb hby at_79) ⟨(congrArg (fun z => some (Value.int z)) (show (0 : Int32) = own_f0 x0 from by simp only [own_f0, if_pos hc46, if_pos hc47])), N42⟩ (by decide) (by decide)
      · refine own_Goes.step (fun t k => XS.ifNo X45.here hx rfl (hb hby at_60) rfl (XT.ll_lt_f hc47) k) ?_
        show own_Goes p e below s (own_F0 Z x0 n0 h0) room_1.cells room_1.slots (T45.setTop (mkF m 63 #[.val (.int x0), .val (.int (own_f0_1 x0)), .val (.long (own_f3 (own_f1_size (1 : Int32)))), .second, .val (.long (own_f3 (own_f1_size (own_f0_1 x0)))), .second, .val (.long (own_f3 (own_f1_size ((own_f0_1 x0) + (1 : Int32))))), .second] []))
        refine own_Goes.step (fun t k => XT.lload X45.here hx rfl (hb hby at_63) rfl k) ?_
        show own_Goes p e below s (own_F0 Z x0 n0 h0) room_1.cells room_1.slots (T45.setTop (mkF m 65 #[.val (.int x0), .val (.int (own_f0_1 x0)), .val (.long (own_f3 (own_f1_size (1 : Int32)))), .second, .val (.long (own_f3 (own_f1_size (own_f0_1 x0)))), .second, .val (.long (own_f3 (own_f1_size ((own_f0_1 x0) + (1 : Int32))))), .second] [(.long (own_f3 (own_f1_size ((own_f0_1 x0) + (1 : Int32)))))]))
        refine own_Goes.step (fun t k => XT.lload X45.here hx rfl (hb hby at_65) rfl k) ?_
        show own_Goes p e below s (own_F0 Z x0 n0 h0) room_1.cells room_1.slots (T45.setTop (mkF m 67 #[.val (.int x0), .val (.int (own_f0_1 x0)), .val (.long (own_f3 (own_f1_size (1 : Int32)))), .second, .val (.long (own_f3 (own_f1_size (own_f0_1 x0)))), .second, .val (.long (own_f3 (own_f1_size ((own_f0_1 x0) + (1 : Int32))))), .second] [(.long (own_f3 (own_f1_size (own_f0_1 x0)))), (.long (own_f3 (own_f1_size ((own_f0_1 x0) + (1 : Int32)))))]))
        refine own_Goes.step (fun t k => XT.lsub X45.here hx rfl (hb hby at_67) rfl k) ?_
        show own_Goes p e below s (own_F0 Z x0 n0 h0) room_1.cells room_1.slots (T45.setTop (mkF m 68 #[.val (.int x0), .val (.int (own_f0_1 x0)), .val (.long (own_f3 (own_f1_size (1 : Int32)))), .second, .val (.long (own_f3 (own_f1_size (own_f0_1 x0)))), .second, .val (.long (own_f3 (own_f1_size ((own_f0_1 x0) + (1 : Int32))))), .second] [(.long ((own_f3 (own_f1_size ((own_f0_1 x0) + (1 : Int32)))) - (own_f3 (own_f1_size (own_f0_1 x0)))))]))
        refine own_Goes.step (fun t k => XS.iloadN X45.here hx rfl (hb hby at_68) rfl k) ?_
        show own_Goes p e below s (own_F0 Z x0 n0 h0) room_1.cells room_1.slots (T45.setTop (mkF m 69 #[.val (.int x0), .val (.int (own_f0_1 x0)), .val (.long (own_f3 (own_f1_size (1 : Int32)))), .second, .val (.long (own_f3 (own_f1_size (own_f0_1 x0)))), .second, .val (.long (own_f3 (own_f1_size ((own_f0_1 x0) + (1 : Int32))))), .second] [(.int (own_f0_1 x0)), (.long ((own_f3 (own_f1_size ((own_f0_1 x0) + (1 : Int32)))) - (own_f3 (own_f1_size (own_f0_1 x0)))))]))
        refine own_Goes.step (fun t k => XT.i2l X45.here hx rfl (hb hby at_69) rfl k) ?_
        show own_Goes p e below s (own_F0 Z x0 n0 h0) room_1.cells room_1.slots (T45.setTop (mkF m 70 #[.val (.int x0), .val (.int (own_f0_1 x0)), .val (.long (own_f3 (own_f1_size (1 : Int32)))), .second, .val (.long (own_f3 (own_f1_size (own_f0_1 x0)))), .second, .val (.long (own_f3 (own_f1_size ((own_f0_1 x0) + (1 : Int32))))), .second] [(.long ((own_f0_1 x0).toInt64)), (.long ((own_f3 (own_f1_size ((own_f0_1 x0) + (1 : Int32)))) - (own_f3 (own_f1_size (own_f0_1 x0)))))]))
        refine own_Goes.step (fun t k => XT.lcmp X45.here hx rfl (hb hby at_70) rfl k) ?_
        show own_Goes p e below s (own_F0 Z x0 n0 h0) room_1.cells room_1.slots (T45.setTop (mkF m 71 #[.val (.int x0), .val (.int (own_f0_1 x0)), .val (.long (own_f3 (own_f1_size (1 : Int32)))), .second, .val (.long (own_f3 (own_f1_size (own_f0_1 x0)))), .second, .val (.long (own_f3 (own_f1_size ((own_f0_1 x0) + (1 : Int32))))), .second] [(.int (XT.cmpL ((own_f3 (own_f1_size ((own_f0_1 x0) + (1 : Int32)))) - (own_f3 (own_f1_size (own_f0_1 x0)))) ((own_f0_1 x0).toInt64)))]))
        by_cases hc48 : ((own_f3 (own_f1_size ((own_f0_1 x0) + (1 : Int32)))) - (own_f3 (own_f1_size (own_f0_1 x0)))) = ((own_f0_1 x0).toInt64)
        · refine own_Goes.step (fun t k => XS.ifNo X45.here hx rfl (hb hby at_71) rfl (XT.ll_ne_f hc48) k) ?_
          show own_Goes p e below s (own_F0 Z x0 n0 h0) room_1.cells room_1.slots (T45.setTop (mkF m 74 #[.val (.int x0), .val (.int (own_f0_1 x0)), .val (.long (own_f3 (own_f1_size (1 : Int32)))), .second, .val (.long (own_f3 (own_f1_size (own_f0_1 x0)))), .second, .val (.long (own_f3 (own_f1_size ((own_f0_1 x0) + (1 : Int32))))), .second] []))
          refine own_Goes.step (fun t k => XT.iconstV X45.here hx rfl (1 : Int32) (hb hby at_74) (by decide) k) ?_
          show own_Goes p e below s (own_F0 Z x0 n0 h0) room_1.cells room_1.slots (T45.setTop (mkF m 75 #[.val (.int x0), .val (.int (own_f0_1 x0)), .val (.long (own_f3 (own_f1_size (1 : Int32)))), .second, .val (.long (own_f3 (own_f1_size (own_f0_1 x0)))), .second, .val (.long (own_f3 (own_f1_size ((own_f0_1 x0) + (1 : Int32))))), .second] [(.int (1 : Int32))]))
          refine own_Goes.step (fun t k => XS.goto X45.here hx rfl (pc0 := 75) (pc' := 79) rfl (hb hby at_75) (by decide) (by decide) k) ?_
          show own_Goes p e below s (own_F0 Z x0 n0 h0) room_1.cells room_1.slots (T45.setTop (mkF m 79 #[.val (.int x0), .val (.int (own_f0_1 x0)), .val (.long (own_f3 (own_f1_size (1 : Int32)))), .second, .val (.long (own_f3 (own_f1_size (own_f0_1 x0)))), .second, .val (.long (own_f3 (own_f1_size ((own_f0_1 x0) + (1 : Int32))))), .second] [(.int (1 : Int32))]))
          exact own_endN X45 hx Bd.notSynchronized (t := .boolean) Bd.returns (by simp) (hb hby at_79) ⟨(congrArg (fun z => some (Value.int z)) (show (1 : Int32) = own_f0 x0 from by simp only [own_f0, if_pos hc46, if_neg hc47, if_pos hc48])), N42⟩ (by decide) (by decide)
        · refine own_Goes.step (fun t k => XS.ifYes X45.here hx rfl (pc0 := 71) (pc' := 78) rfl (hb hby at_71) rfl (XT.ll_ne_t hc48) (by decide) (by decide) k) ?_
          show own_Goes p e below s (own_F0 Z x0 n0 h0) room_1.cells room_1.slots (T45.setTop (mkF m 78 #[.val (.int x0), .val (.int (own_f0_1 x0)), .val (.long (own_f3 (own_f1_size (1 : Int32)))), .second, .val (.long (own_f3 (own_f1_size (own_f0_1 x0)))), .second, .val (.long (own_f3 (own_f1_size ((own_f0_1 x0) + (1 : Int32))))), .second] []))
          refine own_Goes.step (fun t k => XT.iconstV X45.here hx rfl (0 : Int32) (hb hby at_78) (by decide) k) ?_
          show own_Goes p e below s (own_F0 Z x0 n0 h0) room_1.cells room_1.slots (T45.setTop (mkF m 79 #[.val (.int x0), .val (.int (own_f0_1 x0)), .val (.long (own_f3 (own_f1_size (1 : Int32)))), .second, .val (.long (own_f3 (own_f1_size (own_f0_1 x0)))), .second, .val (.long (own_f3 (own_f1_size ((own_f0_1 x0) + (1 : Int32))))), .second] [(.int (0 : Int32))]))
          exact own_endN X45 hx Bd.notSynchronized (t := .boolean) Bd.returns (by simp) (hb hby at_79) ⟨(congrArg (fun z => some (Value.int z)) (show (0 : Int32) = own_f0 x0 from by simp only [own_f0, if_pos hc46, if_neg hc47, if_neg hc48])), N42⟩ (by decide) (by decide)
    · refine own_Goes.step (fun t k => XS.ifYes X45.here hx rfl (pc0 := 53) (pc' := 78) rfl (hb hby at_53) rfl (XT.ll_ne_t hc46) (by decide) (by decide) k) ?_
      show own_Goes p e below s (own_F0 Z x0 n0 h0) room_1.cells room_1.slots (T45.setTop (mkF m 78 #[.val (.int x0), .val (.int (own_f0_1 x0)), .val (.long (own_f3 (own_f1_size (1 : Int32)))), .second, .val (.long (own_f3 (own_f1_size (own_f0_1 x0)))), .second, .val (.long (own_f3 (own_f1_size ((own_f0_1 x0) + (1 : Int32))))), .second] []))
      refine own_Goes.step (fun t k => XT.iconstV X45.here hx rfl (0 : Int32) (hb hby at_78) (by decide) k) ?_
      show own_Goes p e below s (own_F0 Z x0 n0 h0) room_1.cells room_1.slots (T45.setTop (mkF m 79 #[.val (.int x0), .val (.int (own_f0_1 x0)), .val (.long (own_f3 (own_f1_size (1 : Int32)))), .second, .val (.long (own_f3 (own_f1_size (own_f0_1 x0)))), .second, .val (.long (own_f3 (own_f1_size ((own_f0_1 x0) + (1 : Int32))))), .second] [(.int (0 : Int32))]))
      exact own_endN X45 hx Bd.notSynchronized (t := .boolean) Bd.returns (by simp) (hb hby at_79) ⟨(congrArg (fun z => some (Value.int z)) (show (0 : Int32) = own_f0 x0 from by simp only [own_f0, if_neg hc46])), N42⟩ (by decide) (by decide)
  obtain ⟨t2, o2, q1, q2, q3, q4⟩ := hgo
  exact ⟨t2, o2, castTop (ef_0 m x0) q1, q2, q3, q4⟩
theorem own_links (n : Int32) (h1 : 1 ≤ n.toInt) (h2 : n.toInt ≤ 2147483647) : (own_f3 n).toInt = n.toInt * (n.toInt - 1) / 2 := by
  have k1 : (1 : Int32).toInt = 1 := rfl
  have k2 : (2 : Int64).toInt = 2 := rfl
  have s : (n - (1 : Int32)).toInt = n.toInt - 1 := by rw [Jvm.Kit.i32_sub (by rw [k1]; omega) (by rw [k1]; omega), k1]
  have p0 : 0 ≤ n.toInt * (n.toInt - 1) := Int.mul_nonneg (by omega) (by omega)
  have p1 : n.toInt * (n.toInt - 1) ≤ 2147483647 * 2147483647 := Int.mul_le_mul h2 (by omega) (by omega) (by decide)
  have m : (n.toInt64 * (n - (1 : Int32)).toInt64).toInt = n.toInt * (n.toInt - 1) := by
    rw [Jvm.Kit.i64_mul (by rw [Jvm.Kit.i64_of_i32, Jvm.Kit.i64_of_i32, s]; omega) (by rw [Jvm.Kit.i64_of_i32, Jvm.Kit.i64_of_i32, s]; omega), Jvm.Kit.i64_of_i32, Jvm.Kit.i64_of_i32, s]
  unfold own_f3
  rw [Jvm.Kit.i64_div (by rw [k2]; omega), m, k2, Int.tdiv_eq_ediv_of_nonneg p0]
theorem own_law (x0 : Int32) : own_f0 x0 = 1 := by
  have h := own_n x0
  have k1 : (1 : Int32).toInt = 1 := rfl
  have k0 : (0 : Int64).toInt = 0 := rfl
  unfold own_f0 own_f1_size
  generalize own_f0_1 x0 = n at *
  have e1 : (n + (1 : Int32)).toInt = n.toInt + 1 := by rw [Jvm.Kit.i32_add (by rw [k1]; omega) (by rw [k1]; omega), k1]
  have l1 := own_links n (by omega) (by omega)
  have l2 := own_links (n + 1) (by omega) (by omega)
  rw [e1] at l2
  have q : (n.toInt + 1) * (n.toInt + 1 - 1) = n.toInt * (n.toInt - 1) + 2 * n.toInt := by
    have a : n.toInt + 1 - 1 = n.toInt := by omega
    rw [a, Int.add_mul, Int.mul_sub]
    omega
  rw [q] at l2
  have p0 : 0 ≤ n.toInt * (n.toInt - 1) := Int.mul_nonneg (by omega) (by omega)
  have p1 : n.toInt * (n.toInt - 1) ≤ 2147483647 * 2147483647 := Int.mul_le_mul (by omega) (by omega) (by omega) (by decide)
  generalize n.toInt * (n.toInt - 1) = P at *
  have g0 : own_f3 (1 : Int32) = (0 : Int64) := by decide +kernel
  have g1 : ¬ own_f3 n < (0 : Int64) := by rw [own_lt64, l1, k0]; omega
  have g2 : own_f3 (n + (1 : Int32)) - own_f3 n = n.toInt64 := by
    rw [own_eq64, Jvm.Kit.i64_sub (by rw [l1, l2]; omega) (by rw [l1, l2]; omega), l1, l2, Jvm.Kit.i64_of_i32]; omega
  rw [if_pos g0, if_neg g1, if_pos g2]
set_option maxRecDepth 65536 in
set_option maxHeartbeats 40000000 in
theorem comes_1 {Post : Tables → Env → Array Value → State → Outcome → State → Prop} (hpost : ∀ tb e args s v u, (limb_1_1.after args s (.returned v) u = true ∧ limb_1_2.after args s (.returned v) u = true ∧ True) → FrameEnd s (.returned v) u (Jvm.fieldLocs frame_1_writes args s ++ Jvm.arrayLocs frame_1_arrays args s ++ Jvm.staticLocs frame_1_statics s) 16 128 → Post tb e args s (.returned v) u) :
    ArmFor flags0 classFile x code maxLocals ret World_1 tables_1 room_1 Calls_1 rest_1 Pre_1 Post := by
  intro l hfl _ _ p e ha hc hk s m args below hf hA hF happ hP
  obtain ⟨hcalls, hrest, hpre⟩ := hP
  obtain ⟨-, -, -, hnamed, -, -, -, hat⟩ := (Spec.applies_iff hf).mp happ
  obtain ⟨hg, hn⟩ := and_e (Cond.before_iff.mp (show (Jvm.Cond.and given_1 narrow_1).before args s = true from hpre))
  obtain ⟨hcount, hr0⟩ := and_e hg
  obtain ⟨w0, rfl⟩ : ∃ w0 : Value, args = #[w0] := by
    have hs : args.size = 1 := by simpa [Cond.value, given_1] using hcount
    obtain ⟨L⟩ := args
    match L, hs with
    | [w0], _ => exact ⟨w0, rfl⟩
  have hw := fun d (hd : d ∈ tables_1) => atoms_spec (ws := Jvm.Cond.code x code maxLocals ret :: tables_1) hat d (List.mem_cons_of_mem _ hd)
  obtain ⟨i0, ev0⟩ := is_v hr0
  obtain rfl : w0 = (.int i0) := Option.some.inj ev0
  obtain ⟨n, o, h1, h2, h3, _, L, rfl, ⟨rfl, N⟩, hq⟩ := own_m0 l s _ hw tables_1 i0 s.heap.size s.heap (Nat.le_refl _) p e ha hc hk s m _ below hf ((Spec.applies_iff_loose hf).mp happ).1 ⟨rfl, State.Warmed39.refl s, rfl⟩ trivial
  rw [own_law i0] at h3 hq
  refine ⟨n, _, h1, h2, h3, hpost _ _ _ _ _ _ ⟨Cond.after_iff.mpr rfl, Cond.after_iff.mpr (eq_i res_at (Term.int_eval (1)) rfl), trivial⟩ ⟨hq.1, hq.2.1, (hq.2.2.sift fun y hy => Or.inr (N y hy)).mono (by decide) (by decide)⟩⟩
theorem main_1_1 : Claimed_1_1 := comes_1 fun _ _ _ _ _ _ h hF => ⟨h.1, hF⟩
theorem main_1_2 : Claimed_1_2 := comes_1 fun _ _ _ _ _ _ h hF => ⟨h.2.1, hF⟩
end Jvm.Pilot.@@N@@
namespace Jvm.Pilot.@@N@@
open Jvm Jvm.ClassFile Sem Op Lib Jvm.Free Jvm.Stand Jvm.Pilot.@@N@@.Jvm.D
/-! MADE BY PROGRAM (witnessworld.py) out of the Statement's table words and the real class files: 10 classes; the members and pool entries that the words name. The judged class is class 1, her method 1. -/
namespace start1
open Jvm.ClassFile
def u (s : String) : CpInfo := .utf8 (stringToUtf16 s)
/-- a pool by its gaps: so many unusable entries, then the entry; so many at the end -/
def gap : Nat → List CpInfo → List CpInfo
  | 0, r => r
  | n + 1, r => .unusable :: gap n r
def poolList (es : List (Nat × CpInfo)) (last : Nat) : List CpInfo := es.foldr (fun e r => gap e.1 (e.2 :: r)) (gap last [])
def pool (es : List (Nat × CpInfo)) (last : Nat) : Array CpInfo := ⟨poolList es last⟩
def fileOf (pool : Array CpInfo) (this : Nat) (attrs : Array Attribute := #[]) (ms : Array MethodInfo := #[]) (fl : Nat := 33) (sup : Nat := 0) (ifs : Array Nat := #[]) (fds : Array FieldInfo := #[]) : ClassFile where
  minorVersion := 0
  majorVersion := 65
  constantPool := pool
  accessFlags := fl
  thisClass := this
  superClass := sup
  interfaces := ifs
  fields := fds
  methods := ms
  attributes := attrs
def plain (name : String) (sup : Option ClassId) : Class where
  name := name
  kind := .ordinary
  loader := none
  accessFlags := 33
  super := sup
  interfaces := #[]
  cf := none
  fields := #[]
  methods := #[]
  instanceTypes := #[]
  staticTypes := #[]
  resolved := #[]
  callSites := []
  init := .initialized
  statics := none
  mirror := none

def pool0 : Array CpInfo := pool [(5, u "<init>"), (0, u "()V"), (1, .class_ 10), (1, u "java/lang/Object")] 113

def k0c0 : Code := { maxStack := 0, maxLocals := 1, code := object_method_1_code, exceptionTable := #[], attributes := #[] }
def k0m0 : Method := { name := "<init>", desc := "()V", sig := { parameters := [], returnType := none }, accessFlags := 1, code := some k0c0 }
/-- java/lang/Object -/
def k0 : Class := { plain "java/lang/Object" none with
  accessFlags := 33
  interfaces := #[]
  cf := some (fileOf pool0 8 #[] #[{ accessFlags := 1, nameIndex := 5, descriptorIndex := 6, attributes := #[] }] 33 0 #[] #[])
  fields := #[]
  methods := #[k0m0]
  instanceTypes := #[]
  staticTypes := #[]
  resolved := Array.replicate 124 none
  statics := none }

def pool1 : Array CpInfo := pool [(2, .class_ 4), (1, u "java/lang/Object"), (0, u "<init>"), (0, u "()V"), (0, .integer 2147483647), (0, .integer 2147483646), (0, .class_ 10), (0, u "com/example/nodus/nodus/FullMesh"), (0, .methodref 9 12), (0, .nameAndType 5 13), (0, u "(I)V"), (0, .methodref 9 15), (0, .nameAndType 16 17), (0, u "links"), (0, u "()J"), (0, .class_ 19), (0, u "com/example/nodus/nodus/FullMeshLinksPinLaw"), (2, u "law"), (0, u "(I)Z")] 3

def k1m0 : Method := { name := "<init>", desc := "()V", sig := { parameters := [], returnType := none }, accessFlags := 1, code := none }
def k1c1 : Code := { maxStack := 4, maxLocals := 8, code := code, exceptionTable := #[], attributes := #[] }
def k1m1 : Method := { name := "law", desc := "(I)Z", sig := { parameters := [.int], returnType := some .boolean }, accessFlags := 9, code := some k1c1 }
/-- com/example/nodus/nodus/FullMeshLinksPinLaw -/
def k1 : Class := { plain "com/example/nodus/nodus/FullMeshLinksPinLaw" (some 0) with
  accessFlags := 49
  interfaces := #[]
  cf := some (fileOf pool1 18 #[] #[{ accessFlags := 1, nameIndex := 5, descriptorIndex := 6, attributes := #[] }, { accessFlags := 9, nameIndex := 22, descriptorIndex := 23, attributes := #[] }] 49 2 #[] #[])
  fields := #[]
  methods := #[k1m0, k1m1]
  instanceTypes := #[]
  staticTypes := #[]
  resolved := Array.replicate 27 none
  statics := none }

def pool2 : Array CpInfo := pool [(14, .class_ 16), (1, u "com/example/nodus/nodus/Topology"), (42, .class_ 60), (0, u "java/lang/Object")] 41

/-- com/example/nodus/nodus/Topology -/
def k2 : Class := { plain "com/example/nodus/nodus/Topology" (some 0) with
  accessFlags := 1537
  interfaces := #[]
  cf := some (fileOf pool2 14 #[] #[] 1537 59 #[] #[])
  fields := #[]
  methods := #[]
  instanceTypes := #[]
  staticTypes := #[]
  resolved := Array.replicate 102 none
  statics := none }

def pool3 : Array CpInfo := pool [(1, .methodref 2 3), (0, .class_ 4), (0, .nameAndType 5 6), (0, u "java/lang/Object"), (0, u "<init>"), (0, u "()V"), (9, .fieldref 17 18), (0, .class_ 19), (0, .nameAndType 20 21), (0, u "com/example/nodus/nodus/FullMesh"), (0, u "size"), (0, u "I"), (0, .long 2), (22, .class_ 46), (0, u "com/example/nodus/nodus/Topology"), (0, u "(I)V"), (4, u "links"), (0, u "()J")] 26

def k3c0 : Code := { maxStack := 3, maxLocals := 2, code := prog_15_method_1_code, exceptionTable := #[], attributes := #[] }
def k3m0 : Method := { name := "<init>", desc := "(I)V", sig := { parameters := [.int], returnType := none }, accessFlags := 0, code := some k3c0 }
def k3c1 : Code := { maxStack := 4, maxLocals := 1, code := prog_15_method_3_code, exceptionTable := #[], attributes := #[] }
def k3m1 : Method := { name := "links", desc := "()J", sig := { parameters := [], returnType := some .long }, accessFlags := 1, code := some k3c1 }
/-- com/example/nodus/nodus/FullMesh -/
def k3 : Class := { plain "com/example/nodus/nodus/FullMesh" (some 0) with
  accessFlags := 48
  interfaces := #[2]
  cf := some (fileOf pool3 17 #[] #[{ accessFlags := 0, nameIndex := 5, descriptorIndex := 47, attributes := #[] }, { accessFlags := 1, nameIndex := 52, descriptorIndex := 53, attributes := #[] }] 48 2 #[45] #[{ accessFlags := 18, nameIndex := 20, descriptorIndex := 21, attributes := #[] }])
  fields := #[{ name := "size", type := .int, accessFlags := 18, slot := 0, constantValue := 0 }]
  methods := #[k3m0, k3m1]
  instanceTypes := #[.int]
  staticTypes := #[]
  resolved := Array.replicate 80 none
  statics := none }

def pool4 : Array CpInfo := pool [(1, u "java/lang/Cloneable"), (0, .class_ 1), (0, u "java/lang/Object"), (0, .class_ 3)] 3

/-- java/lang/Cloneable -/
def k4 : Class := { plain "java/lang/Cloneable" (some 0) with
  accessFlags := 1537
  interfaces := #[]
  cf := some (fileOf pool4 2 #[] #[] 1537 4 #[] #[])
  fields := #[]
  methods := #[]
  instanceTypes := #[]
  staticTypes := #[]
  resolved := Array.replicate 8 none
  statics := none }

def pool5 : Array CpInfo := pool [(1, u "java/io/Serializable"), (0, .class_ 1), (0, u "java/lang/Object"), (0, .class_ 3)] 3

/-- java/io/Serializable -/
def k5 : Class := { plain "java/io/Serializable" (some 0) with
  accessFlags := 1537
  interfaces := #[]
  cf := some (fileOf pool5 2 #[] #[] 1537 4 #[] #[])
  fields := #[]
  methods := #[]
  instanceTypes := #[]
  staticTypes := #[]
  resolved := Array.replicate 8 none
  statics := none }

/-- the primitive byte -/
def k6 : Class := { plain "byte" none with kind := .primitive 'B', accessFlags := 0x411 }
/-- [B -/
def k7 : Class := { plain "[B" (some 0) with kind := .array 6 .byte, interfaces := #[4, 5], accessFlags := 1041 }

/-- the primitive int -/
def k8 : Class := { plain "int" none with kind := .primitive 'I', accessFlags := 0x411 }
/-- [I -/
def k9 : Class := { plain "[I" (some 0) with kind := .array 8 .int, interfaces := #[4, 5], accessFlags := 1041 }

def heap : Heap := #[]
def classes : Array Class := #[k0, k1, k2, k3, k4, k5, k6, k7, k8, k9]
def interned : List (Array UInt16 × Addr) := []
def slotsUsed : Nat := 0
def theMethod : MethodId := ⟨1, 1⟩
def args0 : Array Value := #[.int 5]
def aboutOver (below : List Frame) : State where
  vm := { classes := classes, interned := interned.toArray }
  heap := heap
  slotsUsed := slotsUsed
  threads := #[{ frames := .invoking theMethod args0 :: below }]
def below0 : List Frame := [.native { method := ⟨0, 0⟩, args := #[] }]
def about1 : State := aboutOver below0
def p0 : Program := .bare "" "" ""
def e0 : Env := launch0.env 0 0 0
theorem w_frames : about1.frames = Frame.invoking theMethod args0 :: below0 := rfl
set_option maxRecDepth 65536 in
theorem w_args : argsFit about1.vm theMethod args0 = true := by decide +kernel
set_option maxRecDepth 65536 in
theorem w_heap : heapFits about1 = true := by decide +kernel
set_option maxRecDepth 65536 in
theorem w_runnable : about1.curStatus? = some .runnable := by decide +kernel
set_option maxRecDepth 65536 in
theorem w_alone : about1.alone = true := by decide +kernel
set_option maxRecDepth 65536 in
theorem w_named : about1.methodNamed? x = some theMethod := by decide +kernel
set_option maxRecDepth 65536 in
theorem w_hears : about1.hears theMethod below0 = true := by decide +kernel
set_option maxRecDepth 65536 in
theorem w_ripe : about1.ripe theMethod args0 below0 = true := by decide +kernel
theorem w_running : about1.status = .running := rfl
set_option maxRecDepth 65536 in
theorem w_room : about1.hasRoom e0.platform room_1 = true :=
  launch0.hasRoom_least _ room_1 (by decide +kernel) (by decide +kernel) (by decide +kernel) (by decide +kernel) (by decide +kernel) (by decide +kernel)
theorem allAtoms_all (ts : List Jvm.Cond) (a : Array Jvm.Value) (st : Jvm.State) : (allAtoms ts).before a st = ts.all (fun c => c.before a st) := by
  induction ts with
  | nil => rfl
  | cons c t ih =>
    show (Jvm.Cond.and c (allAtoms t)).before a st = _
    rw [Jvm.Cond.before_and, ih, List.all_cons]
def words1 : List Jvm.Cond := Jvm.Cond.code x code maxLocals ret :: tables_1
/-- a 'code' word, met by the world's own term for the bytes: nothing is compared byte by byte -/
theorem code_word {y : MethodName} {bytes : ByteArray} {mx : Nat} {rt : Option FieldType} {a : Array Value} {s : State} {m : MethodId} {meth : Method} {c : Code} (h1 : s.methodNamed? y = some m) (h2 : s.vm.method? m = some meth) (h3 : meth.code = some c) (h4 : c.code = bytes)
    (h5 : (c.maxLocals == mx && c.exceptionTable.isEmpty && decide (c.maxStack ≤ mostOperands) && decide (meth.sig.returnType = rt) && !meth.locks && decide (parseMethodDescriptor y.desc = some meth.sig)) = true) : (Jvm.Cond.code y bytes mx rt).before a s = true := by
  simp only [Bool.and_eq_true, beq_iff_eq, Bool.not_eq_true', decide_eq_true_eq] at h5
  obtain ⟨⟨⟨⟨⟨g1, g2⟩, g3⟩, g4⟩, g5⟩, g6⟩ := h5
  simp [Cond.before, Cond.holds, Cond.value, h1, h2, h3, h4, g1, g2, g3, g4, g5, g6]
def isCode : Jvm.Cond → Bool
  | .code _ _ _ _ => true
  | _ => false
theorem all_split {L : List Jvm.Cond} {P : Jvm.Cond → Bool} (h1 : L.all (fun c => isCode c || P c) = true) (h2 : ∀ c ∈ L.filter isCode, P c = true) : L.all P = true := by
  refine List.all_eq_true.mpr fun c hc => ?_
  have h := List.all_eq_true.mp h1 c hc
  rcases Bool.eq_false_or_eq_true (isCode c) with hi | hi
  · exact h2 c (List.mem_filter.mpr ⟨hc, hi⟩)
  · simpa [hi] using h
set_option maxRecDepth 65536 in
theorem w_c0 : (Jvm.Cond.code x code maxLocals ret).before args0 about1 = true := code_word (m := ⟨1, 1⟩) (meth := k1m1) (c := k1c1) (by decide +kernel) rfl rfl rfl (by decide +kernel)
set_option maxRecDepth 65536 in
theorem w_c1 : (Jvm.Cond.code ({ cls := "com/example/nodus/nodus/FullMesh", name := "<init>", desc := "(I)V" } : Jvm.MethodName) prog_15_method_1_code (2 : Nat) (Option.none : Option Jvm.ClassFile.FieldType)).before args0 about1 = true := code_word (m := ⟨3, 0⟩) (meth := k3m0) (c := k3c0) (by decide +kernel) rfl rfl rfl (by decide +kernel)
set_option maxRecDepth 65536 in
theorem w_c2 : (Jvm.Cond.code ({ cls := "java/lang/Object", name := "<init>", desc := "()V" } : Jvm.MethodName) object_method_1_code (1 : Nat) (Option.none : Option Jvm.ClassFile.FieldType)).before args0 about1 = true := code_word (m := ⟨0, 0⟩) (meth := k0m0) (c := k0c0) (by decide +kernel) rfl rfl rfl (by decide +kernel)
set_option maxRecDepth 65536 in
theorem w_c3 : (Jvm.Cond.code ({ cls := "com/example/nodus/nodus/FullMesh", name := "links", desc := "()J" } : Jvm.MethodName) prog_15_method_3_code (1 : Nat) (Option.some Jvm.ClassFile.FieldType.long)).before args0 about1 = true := code_word (m := ⟨3, 1⟩) (meth := k3m1) (c := k3c1) (by decide +kernel) rfl rfl rfl (by decide +kernel)
def codes1 : List Jvm.Cond := [Jvm.Cond.code x code maxLocals ret, Jvm.Cond.code ({ cls := "com/example/nodus/nodus/FullMesh", name := "<init>", desc := "(I)V" } : Jvm.MethodName) prog_15_method_1_code (2 : Nat) (Option.none : Option Jvm.ClassFile.FieldType), Jvm.Cond.code ({ cls := "java/lang/Object", name := "<init>", desc := "()V" } : Jvm.MethodName) object_method_1_code (1 : Nat) (Option.none : Option Jvm.ClassFile.FieldType), Jvm.Cond.code ({ cls := "com/example/nodus/nodus/FullMesh", name := "links", desc := "()J" } : Jvm.MethodName) prog_15_method_3_code (1 : Nat) (Option.some Jvm.ClassFile.FieldType.long)]
set_option maxRecDepth 65536 in
theorem codes_eq : words1.filter isCode = codes1 := rfl
theorem w_codes : ∀ c ∈ words1.filter isCode, c.before args0 about1 = true := by
  rw [codes_eq]
  intro c hc
  simp only [codes1, List.mem_cons, List.not_mem_nil, or_false] at hc
  rcases hc with rfl | rfl | rfl | rfl
  · exact w_c0
  · exact w_c1
  · exact w_c2
  · exact w_c3
set_option maxRecDepth 65536 in
theorem w_t1 : words1.all (fun c => isCode c || c.before args0 about1) = true := by decide +kernel
theorem w_tables : (allAtoms (Jvm.Cond.code x code maxLocals ret :: tables_1)).before args0 about1 = true := by
  rw [allAtoms_all]
  show words1.all (fun c => c.before args0 about1) = true
  refine all_split ?_ w_codes
  rw [w_t1]
set_option maxRecDepth 65536 in
theorem w_case : (Jvm.Cond.and given_1 narrow_1).before args0 about1 = true := by decide +kernel
theorem w_applies : (headSpec (Jvm.Cond.code x code maxLocals ret :: tables_1) room_1).applies x e0.platform about1 = true :=
  (Spec.applies_iff w_frames).mpr ⟨w_running, w_runnable, w_alone, w_named, w_hears, w_ripe, w_room, w_tables⟩
theorem atStart : AtStart classFile x code maxLocals ret World_1 tables_1 room_1 Calls_1 rest_1 Pre_1 launch0 p0 e0 about1 theMethod args0 below0 :=
  ⟨lists_1, trivial, launch0.admits_env _ _ _, launch0.least_env, fairChoices_fair.cas, fairChoices_fair.clock, w_frames, w_args, w_heap, w_applies, trivial, trivial, w_case⟩
end start1
theorem witness_1 : WitnessClaimed_1 := ⟨start1.p0, start1.e0, start1.about1, start1.theMethod, start1.args0, start1.below0, start1.atStart⟩
end Jvm.Pilot.@@N@@
