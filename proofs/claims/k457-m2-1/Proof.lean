import JvmDerived
import JvmDerived.Pilot.@@N@@Statement
import JvmDerived.Pilot.@@N@@Code
set_option linter.unusedVariables false
set_option linter.unusedSimpArgs false
@@BLOCK:NumsL.lean.txt@@
namespace Jvm.RoadKit
open Sem ClassFile Op Lib Jvm.Stand Jvm.Free Jvm.LawKit
section New
variable {p : Program} {l : Launch} {e : Env} {R : Room} {s : State} {m : MethodId} {args : Array Value} {below : List Frame} {meth : Method} {c : Code} {T : State} {locs : List Loc} {cells slots : Nat}
theorem retI (X : Stand p l e R s m args below meth c T locs cells slots) (hx : p.tables.exec = Jvm.exec) {pc : Nat} {Ls : Array Slot} {z : Int32} {rest : List Value} (hret : meth.sig.returnType = some .int) (hd : decode c.code pc = .ok (.ireturn, 1)) {fs : List Frame}
    (hl : ∀ (f : JFrame) (acts : List Action), f.method = m → f.locked = none → f.entered = [] → (doReturn e (T.setTop f) acts (some (.int z))).1 = T.setFrames fs) : Steps p.tables e below (T.setTop (mkF m pc Ls (.int z :: rest))) (T.setFrames fs) := by
  have hm' : T.vm.method? m = some meth := X.method'
  have hn : narrow .int (.int z) = .int z := rfl
  show Steps p.tables e below (T.setTop { method := m, pc := pc, locals := Ls, stack := _ :: rest, locked := none }) _
  jvm_step X.here [X.here.top, hx, hd, hm', hret, hn]
  first | (intro acts; rw [hl _ acts rfl rfl rfl]) | rw [hl _ _ rfl rfl rfl]
  exact Steps.refl _
/-- the run from A comes to a return of which F says the value, the heap and the written places -/
def own_Goes (p : Program) (e : Env) (below : List Frame) (s : State) (F : Option Value → Heap → List Loc → Prop) (k n : Nat) (A : State) : Prop :=
  ∃ s₂ o, Steps p.tables e below A s₂ ∧ s₂.status = .running ∧ Ended s₂ below o ∧ ∃ v L, o = .returned v ∧ F v s₂.heap L ∧ FrameEnd s o s₂ L k n
variable {F : Option Value → Heap → List Loc → Prop} {k n : Nat}
theorem own_Goes.step {A B : State} (h : ∀ t, Steps p.tables e below B t → Steps p.tables e below A t) (g : own_Goes p e below s F k n B) : own_Goes p e below s F k n A := by
  obtain ⟨s₂, o, h1, h2⟩ := g
  exact ⟨s₂, o, h _ h1, h2⟩
theorem own_endI (X : Stand p l e R s m args below meth c T locs cells slots) (hx : p.tables.exec = Jvm.exec) (hlk : meth.locks = false) {pc : Nat} {Ls : Array Slot} {z : Int32} {rest : List Value} (hret : meth.sig.returnType = some .int) (hd : decode c.code pc = .ok (.ireturn, 1)) (hF : F (some (.int z)) T.heap locs) (hk : cells ≤ k) (hn : slots ≤ n) :
    own_Goes p e below s F k n (T.setTop (mkF m pc Ls (.int z :: rest))) := by
  obtain ⟨fs, hr, hrun, hended, hW, hsame⟩ := X.leave (v := some (.int z)) (fun h => by rw [hret] at h; cases h) hlk
  exact ⟨_, _, retI X hx hret hd hr, hrun, hended, _, _, rfl, hF, ⟨_, rfl⟩, hW, hsame.mono hk hn⟩
theorem own_endN (X : Stand p l e R s m args below meth c T locs cells slots) (hx : p.tables.exec = Jvm.exec) (hlk : meth.locks = false) {pc : Nat} {Ls : Array Slot} {z : Int32} {t : FieldType} {rest : List Value} (hret : meth.sig.returnType = some t) (ht : t = .boolean ∨ t = .byte ∨ t = .char ∨ t = .short) (hd : decode c.code pc = .ok (.ireturn, 1)) (hF : F (some (.int (nar t z))) T.heap locs) (hk : cells ≤ k) (hn : slots ≤ n) :
    own_Goes p e below s F k n (T.setTop (mkF m pc Ls (.int z :: rest))) := by
  obtain ⟨fs, hr, hrun, hended, hW, hsame⟩ := X.leave (v := some (.int (nar t z))) (fun h => by rw [hret] at h; cases h) hlk
  exact ⟨_, _, retN X hx hret ht hd hr, hrun, hended, _, _, rfl, hF, ⟨_, rfl⟩, hW, hsame.mono hk hn⟩
theorem own_endJ (X : Stand p l e R s m args below meth c T locs cells slots) (hx : p.tables.exec = Jvm.exec) (hlk : meth.locks = false) {pc : Nat} {Ls : Array Slot} {z : Int64} (hret : meth.sig.returnType = some .long) (hd : decode c.code pc = .ok (.lreturn, 1)) (hF : F (some (.long z)) T.heap locs) (hk : cells ≤ k) (hn : slots ≤ n) :
    own_Goes p e below s F k n (T.setTop (mkF m pc Ls [.long z])) := by
  obtain ⟨fs, hr, hrun, hended, hW, hsame⟩ := X.leave (v := some (.long z)) (fun h => by rw [hret] at h; cases h) hlk
  exact ⟨_, _, X.lreturnOut hx hret hd hr, hrun, hended, _, _, rfl, hF, ⟨_, rfl⟩, hW, hsame.mono hk hn⟩
theorem own_endV (X : Stand p l e R s m args below meth c T locs cells slots) (hx : p.tables.exec = Jvm.exec) (hlk : meth.locks = false) {pc : Nat} {Ls : Array Slot} (hret : meth.sig.returnType = none) (hd : decode c.code pc = .ok (.return_, 1)) (hF : F none T.heap locs) (hk : cells ≤ k) (hn : slots ≤ n) :
    own_Goes p e below s F k n (T.setTop (mkF m pc Ls [])) := by
  obtain ⟨fs, hr, hrun, hended, hW, hsame⟩ := X.leave (v := none) (fun _ => rfl) hlk
  exact ⟨_, _, X.returnOut hx hret hd hr, hrun, hended, _, _, rfl, hF, ⟨_, rfl⟩, hW, hsame.mono hk hn⟩
theorem own_endA (X : Stand p l e R s m args below meth c T locs cells slots) (hx : p.tables.exec = Jvm.exec) (hlk : meth.locks = false) {pc : Nat} {Ls : Array Slot} {w : Value} {t : FieldType} (hw : w.isRef = true) (hret : meth.sig.returnType = some t) (ht : t.isReference = true) (hd : decode c.code pc = .ok (.areturn, 1)) (hF : F (some w) T.heap locs) (hk : cells ≤ k) (hn : slots ≤ n) :
    own_Goes p e below s F k n (T.setTop (mkF m pc Ls [w])) := by
  obtain ⟨fs, hr, hrun, hended, hW, hsame⟩ := X.leave (v := some w) (fun h => by rw [hret] at h; cases h) hlk
  exact ⟨_, _, X.areturnOut hx hw hret ht hd hr, hrun, hended, _, _, rfl, hF, ⟨_, rfl⟩, hW, hsame.mono hk hn⟩
theorem own_lrem (x y : Int64) : x - x / y * y = x % y := by
  refine Int64.toInt_inj.mp ?_
  rw [Jvm.Kit.i64_rem, Int64.toInt_mod]
theorem own_lremM {g : JFrame} {target : State} (X : Stand p l e R s m args below meth c T locs cells slots) (hx : p.tables.exec = Jvm.exec) (hg : g.method = m) {x y : Int64} {rest : List Value} (hd : decode c.code g.pc = .ok (.lrem, 1)) (hs : g.stack = .long y :: .long x :: rest) (hy : y ≠ 0)
    (hr : Steps p.tables e below (T.setTop { g with pc := g.pc + 1, stack := .long (x % y) :: rest }) target) : Steps p.tables e below (T.setTop g) target :=
  XT.lrem X.here hx hg hd hs hy (by rw [own_lrem]; exact hr)
/-- the three calls, by a contract in this family, carried forward -/
theorem own_stat {Z : State} {a0 : Array Value} {h : Heap} (X : Stand p l e R s m args below meth c T locs cells slots) (hx : p.tables.exec = Jvm.exec) (hZ : Z.Warmed39 s.vm) (eT : T.heap = h) {own : String} {index : Nat} {y : MethodName} {bytes : ByteArray} {maxL : Nat} {ret : Option FieldType} {rm : Room} {W : Nat} {argsL rest : List Value} {Q : Option Value → Heap → List Loc → Prop}
    (hown : s.vm.findClass own = some m.cls) (wl : (Cond.methodLink own index y).before a0 Z = true) (wst : (Cond.static y).before a0 Z = true) (wi : (Cond.initialized y.cls).before a0 Z = true) (wc : (Cond.code y bytes maxL ret).before a0 Z = true) (hy : y.cls ≠ "java/lang/invoke/MethodHandle" ∧ y.cls ≠ "java/lang/invoke/VarHandle")
    (hM : MetFree l y (head1 [Cond.code y bytes maxL ret] rm) (fun a U => a = argsL.toArray ∧ Z.Warmed39 U.vm ∧ U.heap = h) (fun _ _ _ _ _ => True) (fun _ U o U' => ∃ w L, o = .returned w ∧ Q w U'.heap L ∧ FrameEnd U o U' L rm.cells rm.slots))
    (hf : rm.frames + 1 ≤ R.frames) (hl : W + (maxL + 11) + rm.locals ≤ R.locals) (hcells : cells + rm.cells ≤ R.cells) (hslots : slots + rm.slots ≤ R.slots)
    {g : JFrame} (hg : g.method = m) (hsize : g.locals.size = c.maxLocals) (hlen : ∀ sig, parseMethodDescriptor y.desc = some sig → argsL.length = sig.parameters.length) (hstack : g.stack = argsL.reverse ++ rest) (hW : 2 * g.monitorRoom + (rest.map fun v => v.category).sum ≤ W) (hdg : decode c.code g.pc = .ok (.invokestatic index, 3)) :
    ∃ w T' L, Q w T'.heap L ∧ Stand p l e R s m args below meth c T' (locs ++ L) (cells + rm.cells) (slots + rm.slots) ∧ ∀ t, Steps p.tables e below (T'.setTop { g with pc := g.pc + 3, stack := w.toList ++ rest }) t → Steps p.tables e below (T.setTop g) t := by
  have hB := backOf (R := R) (p := p) (e := e) (below := below) (args := args) (len := 3) (W := W) (Q := Q) hM hZ wc wi hf hl
  obtain ⟨w, vm₁, ⟨U, Lc, k1, n1⟩, -, X', ⟨L, hQ, hL, hC, hS⟩, st⟩ := Jvm.LawKit.callS X hx (y := y) hown (mvT hZ wl) (mvT hZ wst) (mvT hZ wi) (mvT hZ wc) hy hB (g := g) hg hsize hlen hstack hW hdg (fun _ _ => ⟨rfl, eT, hcells, hslots⟩)
  dsimp only [Pt.U, Pt.locs, Pt.cells, Pt.slots] at X' hQ hL hC hS st
  subst hL hC hS
  exact ⟨w, U, L, hQ, X', st⟩
theorem own_spec {Z : State} {a0 : Array Value} {h : Heap} (X : Stand p l e R s m args below meth c T locs cells slots) (hx : p.tables.exec = Jvm.exec) (hZ : Z.Warmed39 s.vm) (eT : T.heap = h) {own : String} {index : Nat} {y : MethodName} {bytes : ByteArray} {maxL : Nat} {rm : Room} {W : Nat} {a : Addr} {argsL rest : List Value} {Q : Option Value → Heap → List Loc → Prop}
    (hy1 : y.name = "<init>") (hown : s.vm.findClass own = some m.cls) (wl : (Cond.methodLink own index y).before a0 Z = true) (wst : (Cond.instanceMethod y).before a0 Z = true) (wi : (Cond.initialized y.cls).before a0 Z = true) (wc : (Cond.code y bytes maxL none).before a0 Z = true) (hy : y.cls ≠ "java/lang/invoke/MethodHandle" ∧ y.cls ≠ "java/lang/invoke/VarHandle")
    (hM : MetFree l y (head1 [Cond.code y bytes maxL none] rm) (fun b U => b = (.ref a :: argsL).toArray ∧ Z.Warmed39 U.vm ∧ U.heap = h) (fun _ _ _ _ _ => True) (fun _ U o U' => ∃ w L, o = .returned w ∧ Q w U'.heap L ∧ FrameEnd U o U' L rm.cells rm.slots))
    (hf : rm.frames + 1 ≤ R.frames) (hl : W + (maxL + 11) + rm.locals ≤ R.locals) (hcells : cells + rm.cells ≤ R.cells) (hslots : slots + rm.slots ≤ R.slots)
    {g : JFrame} (hg : g.method = m) (hsize : g.locals.size = c.maxLocals) (hlen : ∀ sig, parseMethodDescriptor y.desc = some sig → argsL.length = sig.parameters.length) (hstack : g.stack = argsL.reverse ++ .ref a :: rest) (hW : 2 * g.monitorRoom + (rest.map fun v => v.category).sum ≤ W) (hdg : decode c.code g.pc = .ok (.invokespecial index, 3)) :
    ∃ w T' L, Q w T'.heap L ∧ Stand p l e R s m args below meth c T' (locs ++ L) (cells + rm.cells) (slots + rm.slots) ∧ ∀ t, Steps p.tables e below (T'.setTop { g with pc := g.pc + 3, stack := w.toList ++ rest }) t → Steps p.tables e below (T.setTop g) t := by
  have hB := backOf (R := R) (p := p) (e := e) (below := below) (args := args) (len := 3) (W := W) (Q := Q) hM hZ wc wi hf hl
  obtain ⟨w, vm₁, ⟨U, Lc, k1, n1⟩, -, X', ⟨L, hQ, hL, hC, hS⟩, st⟩ := X.specialBack hx (y := y) hy1 hown (mvT hZ wl) (mvT hZ wst) (mvT hZ wc) hy hB (g := g) hg hsize (Steps.refl _) (a := a) hlen hstack hW hdg (fun _ _ => ⟨rfl, eT, hcells, hslots⟩)
  dsimp only [Pt.U, Pt.locs, Pt.cells, Pt.slots] at X' hQ hL hC hS st
  subst hL hC hS
  exact ⟨w, U, L, hQ, X', fun t k => st.trans k⟩
theorem own_virt {Z : State} {a0 : Array Value} {h : Heap} (X : Stand p l e R s m args below meth c T locs cells slots) (hx : p.tables.exec = Jvm.exec) (hZ : Z.Warmed39 s.vm) (eT : T.heap = h) {own C : String} {index : Nat} {y : MethodName} {bytes : ByteArray} {maxL : Nat} {ret : Option FieldType} {rm : Room} {W : Nat} {a : Addr} {argsL rest : List Value} {Q : Option Value → Heap → List Loc → Prop}
    (E : Exa Z h a C) (hown : s.vm.findClass own = some m.cls) (wl : (Cond.methodLink own index y).before a0 Z = true) (wd : (Cond.declares y).before a0 Z = true) (ws : (Cond.selects C y y).before a0 Z = true) (wst : (Cond.instanceMethod y).before a0 Z = true) (wi : (Cond.initialized y.cls).before a0 Z = true) (wc : (Cond.code y bytes maxL ret).before a0 Z = true) (hy : y.cls ≠ "java/lang/invoke/MethodHandle" ∧ y.cls ≠ "java/lang/invoke/VarHandle")
    (hM : MetFree l y (head1 [Cond.code y bytes maxL ret] rm) (fun b U => b = (.ref a :: argsL).toArray ∧ Z.Warmed39 U.vm ∧ U.heap = h) (fun _ _ _ _ _ => True) (fun _ U o U' => ∃ w L, o = .returned w ∧ Q w U'.heap L ∧ FrameEnd U o U' L rm.cells rm.slots))
    (hf : rm.frames + 1 ≤ R.frames) (hl : W + (maxL + 11) + rm.locals ≤ R.locals) (hcells : cells + rm.cells ≤ R.cells) (hslots : slots + rm.slots ≤ R.slots)
    {g : JFrame} (hg : g.method = m) (hsize : g.locals.size = c.maxLocals) (hlen : ∀ sig, parseMethodDescriptor y.desc = some sig → argsL.length = sig.parameters.length) (hstack : g.stack = argsL.reverse ++ .ref a :: rest) (hW : 2 * g.monitorRoom + (rest.map fun v => v.category).sum ≤ W) (hdg : decode c.code g.pc = .ok (.invokevirtual index, 3)) :
    ∃ w T' L, Q w T'.heap L ∧ Stand p l e R s m args below meth c T' (locs ++ L) (cells + rm.cells) (slots + rm.slots) ∧ ∀ t, Steps p.tables e below (T'.setTop { g with pc := g.pc + 3, stack := w.toList ++ rest }) t → Steps p.tables e below (T.setTop g) t := by
  have hB := backOf (R := R) (p := p) (e := e) (below := below) (args := args) (len := 3) (W := W) (Q := Q) hM hZ wc wi hf hl
  obtain ⟨cq, kq, qa, qb, qc⟩ := isOf hZ eT E
  obtain ⟨w, vm₁, ⟨U, Lc, k1, n1⟩, -, X', ⟨L, hQ, hL, hC, hS⟩, st⟩ := X.virtualBack hx (y := y) (z := y) hown (mvT hZ wl) (mvT hZ wd) (notFace_of_selects (args := #[]) (mvT hZ ws)) (mvT hZ ws) (mvT hZ wst) hy hB qa qc (g := g) hg hsize (Steps.refl _) hlen hstack hW hdg (fun _ _ => ⟨rfl, eT, hcells, hslots⟩)
  dsimp only [Pt.U, Pt.locs, Pt.cells, Pt.slots] at X' hQ hL hC hS st
  subst hL hC hS
  exact ⟨w, U, L, hQ, X', fun t k => st.trans k⟩
/-- a call that left nothing behind -/
theorem own_clean {h : Heap} {w v : Option Value} {T' : State} {L : List Loc} {k0 n0 : Nat} (q : w = v ∧ L = [] ∧ T'.heap = h) (X : Stand p l e R s m args below meth c T' (locs ++ L) (cells + k0) (slots + n0)) (hk : k0 = 0) (hn : n0 = 0) : T'.heap = h ∧ Stand p l e R s m args below meth c T' locs cells slots := by
  obtain ⟨-, rfl, hh⟩ := q
  subst hk hn
  rw [List.append_nil] at X
  exact ⟨hh, X⟩
theorem own_nin {a b : Addr} (q : b ≠ a) : b ∉ [a] := fun h => q (List.mem_singleton.mp h)
theorem own_kt {h0 : Heap} {ws : List Addr} {a : Addr} (q : a ∈ ws ∨ h0.size ≤ a) : ∀ x ∈ [a], x ∈ ws ∨ h0.size ≤ x := fun x hx => by
  cases List.mem_singleton.mp hx; exact q
end New
end Jvm.RoadKit
namespace Jvm.Pilot.@@N@@
open Jvm Jvm.ClassFile Sem Op Lib Jvm.Free Jvm.Stand Jvm.LawKit Jvm.RoadKit Bundle Jvm.Pilot.@@N@@.Jvm.D
/-! plain facts on ints and longs -/
theorem own_char16 (u : UInt16) : (u.toUInt32.toInt32).toInt = u.toNat := by
  have h := u.toNat_lt
  show BitVec.toInt u.toUInt32.toBitVec = _
  rw [BitVec.toInt_eq_toNat_of_lt (by simp; omega)]
  simp
theorem own_char (y : Int32) : 0 ≤ (y.toUInt32.toUInt16.toUInt32.toInt32).toInt ∧ (y.toUInt32.toUInt16.toUInt32.toInt32).toInt < 65536 := by
  rw [own_char16]
  have h := y.toUInt32.toUInt16.toNat_lt
  omega
theorem own_fin32 {P : Int32 → Prop} (n : Nat) (h : ∀ k : Fin n, P (Int32.ofNat k)) (c : Int32) (h0 : 0 ≤ c.toInt) (h1 : c.toInt < n) : P c := by
  have e : c = Int32.ofNat c.toInt.toNat := by
    apply Int32.toInt_inj.mp
    have hb := c.toInt_lt
    rw [Int32.toInt_ofNat_of_lt (by omega)]
    omega
  rw [e]
  exact h ⟨c.toInt.toNat, by omega⟩
theorem own_lt32 (x y : Int32) : (x < y) ↔ x.toInt < y.toInt := Int32.lt_iff_toInt_lt
theorem own_eq32 (x y : Int32) : (x = y) ↔ x.toInt = y.toInt := Int32.toInt_inj.symm
theorem own_lt64 (x y : Int64) : (x < y) ↔ x.toInt < y.toInt := Int64.lt_iff_toInt_lt
theorem own_eq64 (x y : Int64) : (x = y) ↔ x.toInt = y.toInt := Int64.toInt_inj.symm
theorem d6_0 : decode prog_20_method_2_code 0 = .ok (.lload_n 1, 1) := by decide +kernel
theorem d6_1 : decode prog_20_method_2_code 1 = .ok (.ldc2_w 26, 3) := by decide +kernel
theorem d6_4 : decode prog_20_method_2_code 4 = .ok (.lcmp, 1) := by decide +kernel
theorem d6_5 : decode prog_20_method_2_code 5 = .ok (.ifCond .ge 17, 3) := by decide +kernel
theorem d6_8 : decode prog_20_method_2_code 8 = .ok (.lload_n 1, 1) := by decide +kernel
theorem d6_9 : decode prog_20_method_2_code 9 = .ok (.aload_n 0, 1) := by decide +kernel
theorem d6_10 : decode prog_20_method_2_code 10 = .ok (.getfield 22, 3) := by decide +kernel
theorem d6_13 : decode prog_20_method_2_code 13 = .ok (.lmul, 1) := by decide +kernel
theorem d6_14 : decode prog_20_method_2_code 14 = .ok (.aload_n 0, 1) := by decide +kernel
theorem d6_15 : decode prog_20_method_2_code 15 = .ok (.getfield 19, 3) := by decide +kernel
theorem d6_18 : decode prog_20_method_2_code 18 = .ok (.lushr, 1) := by decide +kernel
theorem d6_19 : decode prog_20_method_2_code 19 = .ok (.goto 10, 3) := by decide +kernel
theorem d6_22 : decode prog_20_method_2_code 22 = .ok (.lload_n 1, 1) := by decide +kernel
theorem d6_23 : decode prog_20_method_2_code 23 = .ok (.aload_n 0, 1) := by decide +kernel
theorem d6_24 : decode prog_20_method_2_code 24 = .ok (.getfield 7, 3) := by decide +kernel
theorem d6_27 : decode prog_20_method_2_code 27 = .ok (.i2l, 1) := by decide +kernel
theorem d6_28 : decode prog_20_method_2_code 28 = .ok (.ldiv, 1) := by decide +kernel
theorem d6_29 : decode prog_20_method_2_code 29 = .ok (.lreturn, 1) := by decide +kernel
theorem pn_6 : plainName "com/example/keystead/keystead/Divisor" = true := by first | (simp [plainName, overriddenIn]; done) | decide +kernel
theorem pd_6 : parseMethodDescriptor "(J)J" = some ⟨[.long], (some .long)⟩ := by decide +kernel
theorem ef_6 (m : MethodId) (x0 : Addr) (x1 : Int64) : entryFrame m #[(.ref x0), (.long x1)] 3 = mkF m 0 #[.val (.ref x0), .val (.long x1), .second] [] := by first | (simp [entryFrame, mkF, argsToLocals, Value.category]; done) | rfl
def own_f6 (x1 : Int64) (vm : Int64) (vs : Int32) (vd : Int32) : Int64 := (if x1 < (2147483648 : Int64) then (XT.ushrL (x1 * vm) vs) else (x1 / vd.toInt64))
def own_F6 (Z : State) (x0 : Addr) (x1 : Int64) (vm : Int64) (vs : Int32) (vd : Int32) (h0 : Heap) (v : Option Value) (h : Heap) (L : List Loc) : Prop := v = some (.long (own_f6 x1 vm vs vd)) ∧ L = [] ∧ h = h0
set_option maxRecDepth 65536 in
set_option maxHeartbeats 40000000 in
theorem own_m6 (l : Launch) (Z : State) (a0 : Array Value) (hw : ∀ d ∈ tables_1, d.before a0 Z = true) (ws : List Jvm.Cond) (x0 : Addr) (x1 : Int64) (vm : Int64) (vs : Int32) (vd : Int32) (h0 : Heap) (P0 : Fld Z h0 x0 "com/example/keystead/keystead/Divisor" "multiplier" "J" (.long vm)) (P1 : Fld Z h0 x0 "com/example/keystead/keystead/Divisor" "shift" "I" (.int vs)) (P2 : Fld Z h0 x0 "com/example/keystead/keystead/Divisor" "divisor" "I" (.int vd)) (hnz : ¬ vd.toInt64 = (0 : Int64)) :
    MetFree l (⟨"com/example/keystead/keystead/Divisor", "quotient", "(J)J"⟩ : MethodName) (head1 (Jvm.Cond.code (⟨"com/example/keystead/keystead/Divisor", "quotient", "(J)J"⟩ : MethodName) prog_20_method_2_code 3 (some .long) :: ws) ({ frames := 0, cells := 0, slots := 0, locals := 0 } : Room)) (fun a U => a = #[(.ref x0), (.long x1)] ∧ Z.Warmed39 U.vm ∧ U.heap = h0) (fun _ _ _ _ _ => True) (fun _ U o U' => ∃ v L, o = .returned v ∧ own_F6 Z x0 x1 vm vs vd h0 v U'.heap L ∧ FrameEnd U o U' L ({ frames := 0, cells := 0, slots := 0, locals := 0 } : Room).cells ({ frames := 0, cells := 0, slots := 0, locals := 0 } : Room).slots) := by
  refine MetFree.of_bodySF (plainFor_of_name pn_6) hisR ?_
  intro p e s m args below meth c s₁ Bd hml0 hP hK
  obtain ⟨rfl, hZ, hh⟩ := hP
  have hx := Bd.exec
  have hby := Bd.bytes
  have hml : c.maxLocals = 3 := hml0
  have hown : s.vm.findClass "com/example/keystead/keystead/Divisor" = some m.cls := findClass_of_methodNamed Bd.named
  have hnm := (name_of_methodNamed Bd.named Bd.method).1
  have X0 : Stand p l e ({ frames := 0, cells := 0, slots := 0, locals := 0 } : Room) s m #[(.ref x0), (.long x1)] below meth c s₁ [] 0 0 := Stand.of_body Bd
  have e0 : s₁.heap = h0 := by rw [← hh, Bd.state]; rfl
  have hgo : own_Goes p e below s (own_F6 Z x0 x1 vm vs vd h0) 0 0 (s₁.setTop (mkF m 0 #[.val (.ref x0), .val (.long x1), .second] [])) := by
    refine own_Goes.step (fun t k => XT.lloadN X0.here hx rfl (hb hby d6_0) rfl k) ?_
    show own_Goes p e below s (own_F6 Z x0 x1 vm vs vd h0) 0 0 (s₁.setTop (mkF m 1 #[.val (.ref x0), .val (.long x1), .second] [(.long x1)]))
    refine own_Goes.step (fun t k => X0.ldc2J hx hown (mvT hZ (hw _ (List.mem_of_getElem? (i := 33) rfl))) rfl (hb hby d6_1) k) ?_
    show own_Goes p e below s (own_F6 Z x0 x1 vm vs vd h0) 0 0 (s₁.setTop (mkF m 4 #[.val (.ref x0), .val (.long x1), .second] [(.long (2147483648 : Int64)), (.long x1)]))
    refine own_Goes.step (fun t k => XT.lcmp X0.here hx rfl (hb hby d6_4) rfl k) ?_
    show own_Goes p e below s (own_F6 Z x0 x1 vm vs vd h0) 0 0 (s₁.setTop (mkF m 5 #[.val (.ref x0), .val (.long x1), .second] [(.int (XT.cmpL x1 (2147483648 : Int64)))]))
    by_cases hc1 : x1 < (2147483648 : Int64)
    · refine own_Goes.step (fun t k => XS.ifNo X0.here hx rfl (hb hby d6_5) rfl (XT.ll_ge_f hc1) k) ?_
      show own_Goes p e below s (own_F6 Z x0 x1 vm vs vd h0) 0 0 (s₁.setTop (mkF m 8 #[.val (.ref x0), .val (.long x1), .second] []))
      refine own_Goes.step (fun t k => XT.lloadN X0.here hx rfl (hb hby d6_8) rfl k) ?_
      show own_Goes p e below s (own_F6 Z x0 x1 vm vs vd h0) 0 0 (s₁.setTop (mkF m 9 #[.val (.ref x0), .val (.long x1), .second] [(.long x1)]))
      refine own_Goes.step (fun t k => XS.aloadN X0.here hx rfl (hb hby d6_9) rfl rfl k) ?_
      show own_Goes p e below s (own_F6 Z x0 x1 vm vs vd h0) 0 0 (s₁.setTop (mkF m 10 #[.val (.ref x0), .val (.long x1), .second] [(.ref x0), (.long x1)]))
      obtain ⟨T2, X2, e2, st2⟩ := getF X0 hx hZ hown (host := "") (Or.inl (hw _ (List.mem_of_getElem? (i := 26) rfl))) Via.refl e0 P0 (g := (mkF m 10 #[.val (.ref x0), .val (.long x1), .second] [(.ref x0), (.long x1)])) rfl rfl (hb hby d6_10)
      refine own_Goes.step st2 ?_
      show own_Goes p e below s (own_F6 Z x0 x1 vm vs vd h0) 0 0 (T2.setTop (mkF m 13 #[.val (.ref x0), .val (.long x1), .second] [(.long vm), (.long x1)]))
      refine own_Goes.step (fun t k => XT.lmul X2.here hx rfl (hb hby d6_13) rfl k) ?_
      show own_Goes p e below s (own_F6 Z x0 x1 vm vs vd h0) 0 0 (T2.setTop (mkF m 14 #[.val (.ref x0), .val (.long x1), .second] [(.long (x1 * vm))]))
      refine own_Goes.step (fun t k => XS.aloadN X2.here hx rfl (hb hby d6_14) rfl rfl k) ?_
      show own_Goes p e below s (own_F6 Z x0 x1 vm vs vd h0) 0 0 (T2.setTop (mkF m 15 #[.val (.ref x0), .val (.long x1), .second] [(.ref x0), (.long (x1 * vm))]))
      obtain ⟨T3, X3, e3, st3⟩ := getF X2 hx hZ hown (host := "") (Or.inl (hw _ (List.mem_of_getElem? (i := 24) rfl))) Via.refl e2 P1 (g := (mkF m 15 #[.val (.ref x0), .val (.long x1), .second] [(.ref x0), (.long (x1 * vm))])) rfl rfl (hb hby d6_15)
      refine own_Goes.step st3 ?_
      show own_Goes p e below s (own_F6 Z x0 x1 vm vs vd h0) 0 0 (T3.setTop (mkF m 18 #[.val (.ref x0), .val (.long x1), .second] [(.int vs), (.long (x1 * vm))]))
      refine own_Goes.step (fun t k => XT.lushr X3.here hx rfl (hb hby d6_18) rfl k) ?_
      show own_Goes p e below s (own_F6 Z x0 x1 vm vs vd h0) 0 0 (T3.setTop (mkF m 19 #[.val (.ref x0), .val (.long x1), .second] [(.long (XT.ushrL (x1 * vm) vs))]))
      refine own_Goes.step (fun t k => XS.goto X3.here hx rfl (pc0 := 19) (pc' := 29) rfl (hb hby d6_19) (by decide) (by decide) k) ?_
      show own_Goes p e below s (own_F6 Z x0 x1 vm vs vd h0) 0 0 (T3.setTop (mkF m 29 #[.val (.ref x0), .val (.long x1), .second] [(.long (XT.ushrL (x1 * vm) vs))]))
      exact own_endJ X3 hx Bd.notSynchronized Bd.returns (hb hby d6_29) ⟨(congrArg (fun z => some (Value.long z)) (show (XT.ushrL (x1 * vm) vs) = own_f6 x1 vm vs vd from by simp only [own_f6, if_pos hc1])), rfl, e3⟩ (by decide) (by decide)
    · refine own_Goes.step (fun t k => XS.ifYes X0.here hx rfl (pc0 := 5) (pc' := 22) rfl (hb hby d6_5) rfl (XT.ll_ge_t hc1) (by decide) (by decide) k) ?_
      show own_Goes p e below s (own_F6 Z x0 x1 vm vs vd h0) 0 0 (s₁.setTop (mkF m 22 #[.val (.ref x0), .val (.long x1), .second] []))
      refine own_Goes.step (fun t k => XT.lloadN X0.here hx rfl (hb hby d6_22) rfl k) ?_
      show own_Goes p e below s (own_F6 Z x0 x1 vm vs vd h0) 0 0 (s₁.setTop (mkF m 23 #[.val (.ref x0), .val (.long x1), .second] [(.long x1)]))
      refine own_Goes.step (fun t k => XS.aloadN X0.here hx rfl (hb hby d6_23) rfl rfl k) ?_
      show own_Goes p e below s (own_F6 Z x0 x1 vm vs vd h0) 0 0 (s₁.setTop (mkF m 24 #[.val (.ref x0), .val (.long x1), .second] [(.ref x0), (.long x1)]))
      obtain ⟨T4, X4, e4, st4⟩ := getF X0 hx hZ hown (host := "") (Or.inl (hw _ (List.mem_of_getElem? (i := 18) rfl))) Via.refl e0 P2 (g := (mkF m 24 #[.val (.ref x0), .val (.long x1), .second] [(.ref x0), (.long x1)])) rfl rfl (hb hby d6_24)
      refine own_Goes.step st4 ?_
      show own_Goes p e below s (own_F6 Z x0 x1 vm vs vd h0) 0 0 (T4.setTop (mkF m 27 #[.val (.ref x0), .val (.long x1), .second] [(.int vd), (.long x1)]))
      refine own_Goes.step (fun t k => XT.i2l X4.here hx rfl (hb hby d6_27) rfl k) ?_
      show own_Goes p e below s (own_F6 Z x0 x1 vm vs vd h0) 0 0 (T4.setTop (mkF m 28 #[.val (.ref x0), .val (.long x1), .second] [(.long vd.toInt64), (.long x1)]))
      refine own_Goes.step (fun t k => XT.ldiv X4.here hx rfl (hb hby d6_28) rfl hnz k) ?_
      show own_Goes p e below s (own_F6 Z x0 x1 vm vs vd h0) 0 0 (T4.setTop (mkF m 29 #[.val (.ref x0), .val (.long x1), .second] [(.long (x1 / vd.toInt64))]))
      exact own_endJ X4 hx Bd.notSynchronized Bd.returns (hb hby d6_29) ⟨(congrArg (fun z => some (Value.long z)) (show (x1 / vd.toInt64) = own_f6 x1 vm vs vd from by simp only [own_f6, if_neg hc1])), rfl, e4⟩ (by decide) (by decide)
  obtain ⟨t2, o2, q1, q2, q3, q4⟩ := hgo
  exact ⟨t2, o2, castTop (ef_6 m x0 x1) q1, q2, q3, q4⟩
theorem d5_0 : decode jdk_33_method_47_code 0 = .ok (.iload_n 0, 1) := by decide +kernel
theorem d5_1 : decode jdk_33_method_47_code 1 = .ok (.ifCond .gt 14, 3) := by decide +kernel
theorem d5_4 : decode jdk_33_method_47_code 4 = .ok (.iload_n 0, 1) := by decide +kernel
theorem d5_5 : decode jdk_33_method_47_code 5 = .ok (.ifCond .ne 8, 3) := by decide +kernel
theorem d5_8 : decode jdk_33_method_47_code 8 = .ok (.bipush 32, 2) := by decide +kernel
theorem d5_10 : decode jdk_33_method_47_code 10 = .ok (.goto 4, 3) := by decide +kernel
theorem d5_13 : decode jdk_33_method_47_code 13 = .ok (.iconst 0, 1) := by decide +kernel
theorem d5_14 : decode jdk_33_method_47_code 14 = .ok (.ireturn, 1) := by decide +kernel
theorem d5_15 : decode jdk_33_method_47_code 15 = .ok (.bipush 31, 2) := by decide +kernel
theorem d5_17 : decode jdk_33_method_47_code 17 = .ok (.istore_n 1, 1) := by decide +kernel
theorem d5_18 : decode jdk_33_method_47_code 18 = .ok (.iload_n 0, 1) := by decide +kernel
theorem d5_19 : decode jdk_33_method_47_code 19 = .ok (.ldc_w 264, 3) := by decide +kernel
theorem d5_22 : decode jdk_33_method_47_code 22 = .ok (.if_icmp .lt 11, 3) := by decide +kernel
theorem d5_25 : decode jdk_33_method_47_code 25 = .ok (.iinc 1 (-16), 3) := by decide +kernel
theorem d5_28 : decode jdk_33_method_47_code 28 = .ok (.iload_n 0, 1) := by decide +kernel
theorem d5_29 : decode jdk_33_method_47_code 29 = .ok (.bipush 16, 2) := by decide +kernel
theorem d5_31 : decode jdk_33_method_47_code 31 = .ok (.iushr, 1) := by decide +kernel
theorem d5_32 : decode jdk_33_method_47_code 32 = .ok (.istore_n 0, 1) := by decide +kernel
theorem d5_33 : decode jdk_33_method_47_code 33 = .ok (.iload_n 0, 1) := by decide +kernel
theorem d5_34 : decode jdk_33_method_47_code 34 = .ok (.sipush 256, 3) := by decide +kernel
theorem d5_37 : decode jdk_33_method_47_code 37 = .ok (.if_icmp .lt 11, 3) := by decide +kernel
theorem d5_40 : decode jdk_33_method_47_code 40 = .ok (.iinc 1 (-8), 3) := by decide +kernel
theorem d5_43 : decode jdk_33_method_47_code 43 = .ok (.iload_n 0, 1) := by decide +kernel
theorem d5_44 : decode jdk_33_method_47_code 44 = .ok (.bipush 8, 2) := by decide +kernel
theorem d5_46 : decode jdk_33_method_47_code 46 = .ok (.iushr, 1) := by decide +kernel
theorem d5_47 : decode jdk_33_method_47_code 47 = .ok (.istore_n 0, 1) := by decide +kernel
theorem d5_48 : decode jdk_33_method_47_code 48 = .ok (.iload_n 0, 1) := by decide +kernel
theorem d5_49 : decode jdk_33_method_47_code 49 = .ok (.bipush 16, 2) := by decide +kernel
theorem d5_51 : decode jdk_33_method_47_code 51 = .ok (.if_icmp .lt 10, 3) := by decide +kernel
theorem d5_54 : decode jdk_33_method_47_code 54 = .ok (.iinc 1 (-4), 3) := by decide +kernel
theorem d5_57 : decode jdk_33_method_47_code 57 = .ok (.iload_n 0, 1) := by decide +kernel
theorem d5_58 : decode jdk_33_method_47_code 58 = .ok (.iconst 4, 1) := by decide +kernel
theorem d5_59 : decode jdk_33_method_47_code 59 = .ok (.iushr, 1) := by decide +kernel
theorem d5_60 : decode jdk_33_method_47_code 60 = .ok (.istore_n 0, 1) := by decide +kernel
theorem d5_61 : decode jdk_33_method_47_code 61 = .ok (.iload_n 0, 1) := by decide +kernel
theorem d5_62 : decode jdk_33_method_47_code 62 = .ok (.iconst 4, 1) := by decide +kernel
theorem d5_63 : decode jdk_33_method_47_code 63 = .ok (.if_icmp .lt 10, 3) := by decide +kernel
theorem d5_66 : decode jdk_33_method_47_code 66 = .ok (.iinc 1 (-2), 3) := by decide +kernel
theorem d5_69 : decode jdk_33_method_47_code 69 = .ok (.iload_n 0, 1) := by decide +kernel
theorem d5_70 : decode jdk_33_method_47_code 70 = .ok (.iconst 2, 1) := by decide +kernel
theorem d5_71 : decode jdk_33_method_47_code 71 = .ok (.iushr, 1) := by decide +kernel
theorem d5_72 : decode jdk_33_method_47_code 72 = .ok (.istore_n 0, 1) := by decide +kernel
theorem d5_73 : decode jdk_33_method_47_code 73 = .ok (.iload_n 1, 1) := by decide +kernel
theorem d5_74 : decode jdk_33_method_47_code 74 = .ok (.iload_n 0, 1) := by decide +kernel
theorem d5_75 : decode jdk_33_method_47_code 75 = .ok (.iconst 1, 1) := by decide +kernel
theorem d5_76 : decode jdk_33_method_47_code 76 = .ok (.iushr, 1) := by decide +kernel
theorem d5_77 : decode jdk_33_method_47_code 77 = .ok (.isub, 1) := by decide +kernel
theorem d5_78 : decode jdk_33_method_47_code 78 = .ok (.ireturn, 1) := by decide +kernel
theorem pn_5 : plainName "java/lang/Integer" = true := by first | (simp [plainName, overriddenIn]; done) | decide +kernel
theorem pd_5 : parseMethodDescriptor "(I)I" = some ⟨[.int], (some .int)⟩ := by decide +kernel
theorem ef_5 (m : MethodId) (x0 : Int32) : entryFrame m #[(.int x0)] 2 = mkF m 0 #[.val (.int x0), .unset] [] := by first | (simp [entryFrame, mkF, argsToLocals, Value.category]; done) | rfl
def own_f5_1 (x0 : Int32) : Int32 := (if x0 < (65536 : Int32) then x0 else (XT.ushr x0 (16 : Int32)))
def own_f5_2 (x0 : Int32) : Int32 := (if x0 < (65536 : Int32) then (31 : Int32) else ((31 : Int32) + (-16 : Int32)))
def own_f5_3 (x0 : Int32) : Int32 := (if (own_f5_1 x0) < (256 : Int32) then (own_f5_1 x0) else (XT.ushr (own_f5_1 x0) (8 : Int32)))
def own_f5_4 (x0 : Int32) : Int32 := (if (own_f5_1 x0) < (256 : Int32) then (own_f5_2 x0) else ((own_f5_2 x0) + (-8 : Int32)))
def own_f5_5 (x0 : Int32) : Int32 := (if (own_f5_3 x0) < (16 : Int32) then (own_f5_3 x0) else (XT.ushr (own_f5_3 x0) (4 : Int32)))
def own_f5_6 (x0 : Int32) : Int32 := (if (own_f5_3 x0) < (16 : Int32) then (own_f5_4 x0) else ((own_f5_4 x0) + (-4 : Int32)))
def own_f5_7 (x0 : Int32) : Int32 := (if (own_f5_5 x0) < (4 : Int32) then (own_f5_5 x0) else (XT.ushr (own_f5_5 x0) (2 : Int32)))
def own_f5_8 (x0 : Int32) : Int32 := (if (own_f5_5 x0) < (4 : Int32) then (own_f5_6 x0) else ((own_f5_6 x0) + (-2 : Int32)))
def own_f5 (x0 : Int32) : Int32 := (if (0 : Int32) < x0 then ((own_f5_8 x0) - (XT.ushr (own_f5_7 x0) (1 : Int32))) else (if x0 = (0 : Int32) then (32 : Int32) else (0 : Int32)))
def own_F5 (Z : State) (x0 : Int32)  (h0 : Heap) (v : Option Value) (h : Heap) (L : List Loc) : Prop := v = some (.int (own_f5 x0)) ∧ L = [] ∧ h = h0
set_option maxRecDepth 65536 in
set_option maxHeartbeats 40000000 in
theorem own_m5 (l : Launch) (Z : State) (a0 : Array Value) (hw : ∀ d ∈ tables_1, d.before a0 Z = true) (ws : List Jvm.Cond) (x0 : Int32)  (h0 : Heap)   :
    MetFree l (⟨"java/lang/Integer", "numberOfLeadingZeros", "(I)I"⟩ : MethodName) (head1 (Jvm.Cond.code (⟨"java/lang/Integer", "numberOfLeadingZeros", "(I)I"⟩ : MethodName) jdk_33_method_47_code 2 (some .int) :: ws) ({ frames := 0, cells := 0, slots := 0, locals := 0 } : Room)) (fun a U => a = #[(.int x0)] ∧ Z.Warmed39 U.vm ∧ U.heap = h0) (fun _ _ _ _ _ => True) (fun _ U o U' => ∃ v L, o = .returned v ∧ own_F5 Z x0 h0 v U'.heap L ∧ FrameEnd U o U' L ({ frames := 0, cells := 0, slots := 0, locals := 0 } : Room).cells ({ frames := 0, cells := 0, slots := 0, locals := 0 } : Room).slots) := by
  refine MetFree.of_bodySF (plainFor_of_name pn_5) hisR ?_
  intro p e s m args below meth c s₁ Bd hml0 hP hK
  obtain ⟨rfl, hZ, hh⟩ := hP
  have hx := Bd.exec
  have hby := Bd.bytes
  have hml : c.maxLocals = 2 := hml0
  have hown : s.vm.findClass "java/lang/Integer" = some m.cls := findClass_of_methodNamed Bd.named
  have hnm := (name_of_methodNamed Bd.named Bd.method).1
  have X0 : Stand p l e ({ frames := 0, cells := 0, slots := 0, locals := 0 } : Room) s m #[(.int x0)] below meth c s₁ [] 0 0 := Stand.of_body Bd
  have e0 : s₁.heap = h0 := by rw [← hh, Bd.state]; rfl
  have hgo : own_Goes p e below s (own_F5 Z x0 h0) 0 0 (s₁.setTop (mkF m 0 #[.val (.int x0), .unset] [])) := by
    refine own_Goes.step (fun t k => XS.iloadN X0.here hx rfl (hb hby d5_0) rfl k) ?_
    show own_Goes p e below s (own_F5 Z x0 h0) 0 0 (s₁.setTop (mkF m 1 #[.val (.int x0), .unset] [(.int x0)]))
    by_cases hc1 : (0 : Int32) < x0
    · refine own_Goes.step (fun t k => XS.ifYes X0.here hx rfl (pc0 := 1) (pc' := 15) rfl (hb hby d5_1) rfl (XT.i0_gt_t hc1) (by decide) (by decide) k) ?_
      show own_Goes p e below s (own_F5 Z x0 h0) 0 0 (s₁.setTop (mkF m 15 #[.val (.int x0), .unset] []))
      refine own_Goes.step (fun t k => XT.bipushV X0.here hx rfl (31 : Int32) (hb hby d5_15) (by decide) k) ?_
      show own_Goes p e below s (own_F5 Z x0 h0) 0 0 (s₁.setTop (mkF m 17 #[.val (.int x0), .unset] [(.int (31 : Int32))]))
      refine own_Goes.step (fun t k => XS.istoreN X0.here hx rfl (hb hby d5_17) rfl (l' := #[.val (.int x0), .val (.int (31 : Int32))]) rfl k) ?_
      show own_Goes p e below s (own_F5 Z x0 h0) 0 0 (s₁.setTop (mkF m 18 #[.val (.int x0), .val (.int (31 : Int32))] []))
      refine own_Goes.step (fun t k => XS.iloadN X0.here hx rfl (hb hby d5_18) rfl k) ?_
      show own_Goes p e below s (own_F5 Z x0 h0) 0 0 (s₁.setTop (mkF m 19 #[.val (.int x0), .val (.int (31 : Int32))] [(.int x0)]))
      refine own_Goes.step (fun t k => X0.ldcWI hx hown (mvT hZ (hw _ (List.mem_of_getElem? (i := 36) rfl))) rfl (hb hby d5_19) k) ?_
      show own_Goes p e below s (own_F5 Z x0 h0) 0 0 (s₁.setTop (mkF m 22 #[.val (.int x0), .val (.int (31 : Int32))] [(.int (65536 : Int32)), (.int x0)]))
      have J9 : own_Goes p e below s (own_F5 Z x0 h0) 0 0 (s₁.setTop (mkF m 33 #[.val (.int (own_f5_1 x0)), .val (.int (own_f5_2 x0))] [])) := by
        refine own_Goes.step (fun t k => XS.iloadN X0.here hx rfl (hb hby d5_33) rfl k) ?_
        show own_Goes p e below s (own_F5 Z x0 h0) 0 0 (s₁.setTop (mkF m 34 #[.val (.int (own_f5_1 x0)), .val (.int (own_f5_2 x0))] [(.int (own_f5_1 x0))]))
        refine own_Goes.step (fun t k => XT.sipushV X0.here hx rfl (256 : Int32) (hb hby d5_34) (by decide) k) ?_
        show own_Goes p e below s (own_F5 Z x0 h0) 0 0 (s₁.setTop (mkF m 37 #[.val (.int (own_f5_1 x0)), .val (.int (own_f5_2 x0))] [(.int (256 : Int32)), (.int (own_f5_1 x0))]))
        have J8 : own_Goes p e below s (own_F5 Z x0 h0) 0 0 (s₁.setTop (mkF m 48 #[.val (.int (own_f5_3 x0)), .val (.int (own_f5_4 x0))] [])) := by
          refine own_Goes.step (fun t k => XS.iloadN X0.here hx rfl (hb hby d5_48) rfl k) ?_
          show own_Goes p e below s (own_F5 Z x0 h0) 0 0 (s₁.setTop (mkF m 49 #[.val (.int (own_f5_3 x0)), .val (.int (own_f5_4 x0))] [(.int (own_f5_3 x0))]))
          refine own_Goes.step (fun t k => XT.bipushV X0.here hx rfl (16 : Int32) (hb hby d5_49) (by decide) k) ?_
          show own_Goes p e below s (own_F5 Z x0 h0) 0 0 (s₁.setTop (mkF m 51 #[.val (.int (own_f5_3 x0)), .val (.int (own_f5_4 x0))] [(.int (16 : Int32)), (.int (own_f5_3 x0))]))
          have J7 : own_Goes p e below s (own_F5 Z x0 h0) 0 0 (s₁.setTop (mkF m 61 #[.val (.int (own_f5_5 x0)), .val (.int (own_f5_6 x0))] [])) := by
            refine own_Goes.step (fun t k => XS.iloadN X0.here hx rfl (hb hby d5_61) rfl k) ?_
            show own_Goes p e below s (own_F5 Z x0 h0) 0 0 (s₁.setTop (mkF m 62 #[.val (.int (own_f5_5 x0)), .val (.int (own_f5_6 x0))] [(.int (own_f5_5 x0))]))
            refine own_Goes.step (fun t k => XT.iconstV X0.here hx rfl (4 : Int32) (hb hby d5_62) (by decide) k) ?_
            show own_Goes p e below s (own_F5 Z x0 h0) 0 0 (s₁.setTop (mkF m 63 #[.val (.int (own_f5_5 x0)), .val (.int (own_f5_6 x0))] [(.int (4 : Int32)), (.int (own_f5_5 x0))]))
            have J6 : own_Goes p e below s (own_F5 Z x0 h0) 0 0 (s₁.setTop (mkF m 73 #[.val (.int (own_f5_7 x0)), .val (.int (own_f5_8 x0))] [])) := by
              refine own_Goes.step (fun t k => XS.iloadN X0.here hx rfl (hb hby d5_73) rfl k) ?_
              show own_Goes p e below s (own_F5 Z x0 h0) 0 0 (s₁.setTop (mkF m 74 #[.val (.int (own_f5_7 x0)), .val (.int (own_f5_8 x0))] [(.int (own_f5_8 x0))]))
              refine own_Goes.step (fun t k => XS.iloadN X0.here hx rfl (hb hby d5_74) rfl k) ?_
              show own_Goes p e below s (own_F5 Z x0 h0) 0 0 (s₁.setTop (mkF m 75 #[.val (.int (own_f5_7 x0)), .val (.int (own_f5_8 x0))] [(.int (own_f5_7 x0)), (.int (own_f5_8 x0))]))
              refine own_Goes.step (fun t k => XT.iconstV X0.here hx rfl (1 : Int32) (hb hby d5_75) (by decide) k) ?_
              show own_Goes p e below s (own_F5 Z x0 h0) 0 0 (s₁.setTop (mkF m 76 #[.val (.int (own_f5_7 x0)), .val (.int (own_f5_8 x0))] [(.int (1 : Int32)), (.int (own_f5_7 x0)), (.int (own_f5_8 x0))]))
              refine own_Goes.step (fun t k => XT.iushr X0.here hx rfl (hb hby d5_76) rfl k) ?_
              show own_Goes p e below s (own_F5 Z x0 h0) 0 0 (s₁.setTop (mkF m 77 #[.val (.int (own_f5_7 x0)), .val (.int (own_f5_8 x0))] [(.int (XT.ushr (own_f5_7 x0) (1 : Int32))), (.int (own_f5_8 x0))]))
              refine own_Goes.step (fun t k => XS.isub X0.here hx rfl (hb hby d5_77) rfl k) ?_
              show own_Goes p e below s (own_F5 Z x0 h0) 0 0 (s₁.setTop (mkF m 78 #[.val (.int (own_f5_7 x0)), .val (.int (own_f5_8 x0))] [(.int ((own_f5_8 x0) - (XT.ushr (own_f5_7 x0) (1 : Int32))))]))
              exact own_endI X0 hx Bd.notSynchronized Bd.returns (hb hby d5_78) ⟨(congrArg (fun z => some (Value.int z)) (show ((own_f5_8 x0) - (XT.ushr (own_f5_7 x0) (1 : Int32))) = own_f5 x0 from by simp only [own_f5, if_pos hc1])), rfl, e0⟩ (by decide) (by decide)
            by_cases hc5 : (own_f5_5 x0) < (4 : Int32)
            · refine own_Goes.step (fun t k => XS.icmpYes X0.here hx rfl (pc0 := 63) (pc' := 73) rfl (hb hby d5_63) rfl (XT.ii_lt_t hc5) (by decide) (by decide) k) ?_
              show own_Goes p e below s (own_F5 Z x0 h0) 0 0 (s₁.setTop (mkF m 73 #[.val (.int (own_f5_5 x0)), .val (.int (own_f5_6 x0))] []))
              rw [show (own_f5_7 x0) = (own_f5_5 x0) from by simp only [own_f5_7, if_pos hc5]] at J6
              rw [show (own_f5_8 x0) = (own_f5_6 x0) from by simp only [own_f5_8, if_pos hc5]] at J6
              exact J6
            · refine own_Goes.step (fun t k => XS.icmpNo X0.here hx rfl (hb hby d5_63) rfl (XT.ii_lt_f hc5) k) ?_
              show own_Goes p e below s (own_F5 Z x0 h0) 0 0 (s₁.setTop (mkF m 66 #[.val (.int (own_f5_5 x0)), .val (.int (own_f5_6 x0))] []))
              refine own_Goes.step (fun t k => XT.iincV X0.here hx rfl (-2 : Int32) (hb hby d5_66) (by decide) rfl (l' := #[.val (.int (own_f5_5 x0)), .val (.int ((own_f5_6 x0) + (-2 : Int32)))]) rfl k) ?_
              show own_Goes p e below s (own_F5 Z x0 h0) 0 0 (s₁.setTop (mkF m 69 #[.val (.int (own_f5_5 x0)), .val (.int ((own_f5_6 x0) + (-2 : Int32)))] []))
              refine own_Goes.step (fun t k => XS.iloadN X0.here hx rfl (hb hby d5_69) rfl k) ?_
              show own_Goes p e below s (own_F5 Z x0 h0) 0 0 (s₁.setTop (mkF m 70 #[.val (.int (own_f5_5 x0)), .val (.int ((own_f5_6 x0) + (-2 : Int32)))] [(.int (own_f5_5 x0))]))
              refine own_Goes.step (fun t k => XT.iconstV X0.here hx rfl (2 : Int32) (hb hby d5_70) (by decide) k) ?_
              show own_Goes p e below s (own_F5 Z x0 h0) 0 0 (s₁.setTop (mkF m 71 #[.val (.int (own_f5_5 x0)), .val (.int ((own_f5_6 x0) + (-2 : Int32)))] [(.int (2 : Int32)), (.int (own_f5_5 x0))]))
              refine own_Goes.step (fun t k => XT.iushr X0.here hx rfl (hb hby d5_71) rfl k) ?_
              show own_Goes p e below s (own_F5 Z x0 h0) 0 0 (s₁.setTop (mkF m 72 #[.val (.int (own_f5_5 x0)), .val (.int ((own_f5_6 x0) + (-2 : Int32)))] [(.int (XT.ushr (own_f5_5 x0) (2 : Int32)))]))
              refine own_Goes.step (fun t k => XS.istoreN X0.here hx rfl (hb hby d5_72) rfl (l' := #[.val (.int (XT.ushr (own_f5_5 x0) (2 : Int32))), .val (.int ((own_f5_6 x0) + (-2 : Int32)))]) rfl k) ?_
              show own_Goes p e below s (own_F5 Z x0 h0) 0 0 (s₁.setTop (mkF m 73 #[.val (.int (XT.ushr (own_f5_5 x0) (2 : Int32))), .val (.int ((own_f5_6 x0) + (-2 : Int32)))] []))
              rw [show (own_f5_7 x0) = (XT.ushr (own_f5_5 x0) (2 : Int32)) from by simp only [own_f5_7, if_neg hc5]] at J6
              rw [show (own_f5_8 x0) = ((own_f5_6 x0) + (-2 : Int32)) from by simp only [own_f5_8, if_neg hc5]] at J6
              exact J6
          by_cases hc4 : (own_f5_3 x0) < (16 : Int32)
          · refine own_Goes.step (fun t k => XS.icmpYes X0.here hx rfl (pc0 := 51) (pc' := 61) rfl (hb hby d5_51) rfl (XT.ii_lt_t hc4) (by decide) (by decide) k) ?_
            show own_Goes p e below s (own_F5 Z x0 h0) 0 0 (s₁.setTop (mkF m 61 #[.val (.int (own_f5_3 x0)), .val (.int (own_f5_4 x0))] []))
            rw [show (own_f5_5 x0) = (own_f5_3 x0) from by simp only [own_f5_5, if_pos hc4]] at J7
            rw [show (own_f5_6 x0) = (own_f5_4 x0) from by simp only [own_f5_6, if_pos hc4]] at J7
            exact J7
          · refine own_Goes.step (fun t k => XS.icmpNo X0.here hx rfl (hb hby d5_51) rfl (XT.ii_lt_f hc4) k) ?_
            show own_Goes p e below s (own_F5 Z x0 h0) 0 0 (s₁.setTop (mkF m 54 #[.val (.int (own_f5_3 x0)), .val (.int (own_f5_4 x0))] []))
            refine own_Goes.step (fun t k => XT.iincV X0.here hx rfl (-4 : Int32) (hb hby d5_54) (by decide) rfl (l' := #[.val (.int (own_f5_3 x0)), .val (.int ((own_f5_4 x0) + (-4 : Int32)))]) rfl k) ?_
            show own_Goes p e below s (own_F5 Z x0 h0) 0 0 (s₁.setTop (mkF m 57 #[.val (.int (own_f5_3 x0)), .val (.int ((own_f5_4 x0) + (-4 : Int32)))] []))
            refine own_Goes.step (fun t k => XS.iloadN X0.here hx rfl (hb hby d5_57) rfl k) ?_
            show own_Goes p e below s (own_F5 Z x0 h0) 0 0 (s₁.setTop (mkF m 58 #[.val (.int (own_f5_3 x0)), .val (.int ((own_f5_4 x0) + (-4 : Int32)))] [(.int (own_f5_3 x0))]))
            refine own_Goes.step (fun t k => XT.iconstV X0.here hx rfl (4 : Int32) (hb hby d5_58) (by decide) k) ?_
            show own_Goes p e below s (own_F5 Z x0 h0) 0 0 (s₁.setTop (mkF m 59 #[.val (.int (own_f5_3 x0)), .val (.int ((own_f5_4 x0) + (-4 : Int32)))] [(.int (4 : Int32)), (.int (own_f5_3 x0))]))
            refine own_Goes.step (fun t k => XT.iushr X0.here hx rfl (hb hby d5_59) rfl k) ?_
            show own_Goes p e below s (own_F5 Z x0 h0) 0 0 (s₁.setTop (mkF m 60 #[.val (.int (own_f5_3 x0)), .val (.int ((own_f5_4 x0) + (-4 : Int32)))] [(.int (XT.ushr (own_f5_3 x0) (4 : Int32)))]))
            refine own_Goes.step (fun t k => XS.istoreN X0.here hx rfl (hb hby d5_60) rfl (l' := #[.val (.int (XT.ushr (own_f5_3 x0) (4 : Int32))), .val (.int ((own_f5_4 x0) + (-4 : Int32)))]) rfl k) ?_
            show own_Goes p e below s (own_F5 Z x0 h0) 0 0 (s₁.setTop (mkF m 61 #[.val (.int (XT.ushr (own_f5_3 x0) (4 : Int32))), .val (.int ((own_f5_4 x0) + (-4 : Int32)))] []))
            rw [show (own_f5_5 x0) = (XT.ushr (own_f5_3 x0) (4 : Int32)) from by simp only [own_f5_5, if_neg hc4]] at J7
            rw [show (own_f5_6 x0) = ((own_f5_4 x0) + (-4 : Int32)) from by simp only [own_f5_6, if_neg hc4]] at J7
            exact J7
        by_cases hc3 : (own_f5_1 x0) < (256 : Int32)
        · refine own_Goes.step (fun t k => XS.icmpYes X0.here hx rfl (pc0 := 37) (pc' := 48) rfl (hb hby d5_37) rfl (XT.ii_lt_t hc3) (by decide) (by decide) k) ?_
          show own_Goes p e below s (own_F5 Z x0 h0) 0 0 (s₁.setTop (mkF m 48 #[.val (.int (own_f5_1 x0)), .val (.int (own_f5_2 x0))] []))
          rw [show (own_f5_3 x0) = (own_f5_1 x0) from by simp only [own_f5_3, if_pos hc3]] at J8
          rw [show (own_f5_4 x0) = (own_f5_2 x0) from by simp only [own_f5_4, if_pos hc3]] at J8
          exact J8
        · refine own_Goes.step (fun t k => XS.icmpNo X0.here hx rfl (hb hby d5_37) rfl (XT.ii_lt_f hc3) k) ?_
          show own_Goes p e below s (own_F5 Z x0 h0) 0 0 (s₁.setTop (mkF m 40 #[.val (.int (own_f5_1 x0)), .val (.int (own_f5_2 x0))] []))
          refine own_Goes.step (fun t k => XT.iincV X0.here hx rfl (-8 : Int32) (hb hby d5_40) (by decide) rfl (l' := #[.val (.int (own_f5_1 x0)), .val (.int ((own_f5_2 x0) + (-8 : Int32)))]) rfl k) ?_
          show own_Goes p e below s (own_F5 Z x0 h0) 0 0 (s₁.setTop (mkF m 43 #[.val (.int (own_f5_1 x0)), .val (.int ((own_f5_2 x0) + (-8 : Int32)))] []))
          refine own_Goes.step (fun t k => XS.iloadN X0.here hx rfl (hb hby d5_43) rfl k) ?_
          show own_Goes p e below s (own_F5 Z x0 h0) 0 0 (s₁.setTop (mkF m 44 #[.val (.int (own_f5_1 x0)), .val (.int ((own_f5_2 x0) + (-8 : Int32)))] [(.int (own_f5_1 x0))]))
          refine own_Goes.step (fun t k => XT.bipushV X0.here hx rfl (8 : Int32) (hb hby d5_44) (by decide) k) ?_
          show own_Goes p e below s (own_F5 Z x0 h0) 0 0 (s₁.setTop (mkF m 46 #[.val (.int (own_f5_1 x0)), .val (.int ((own_f5_2 x0) + (-8 : Int32)))] [(.int (8 : Int32)), (.int (own_f5_1 x0))]))
          refine own_Goes.step (fun t k => XT.iushr X0.here hx rfl (hb hby d5_46) rfl k) ?_
          show own_Goes p e below s (own_F5 Z x0 h0) 0 0 (s₁.setTop (mkF m 47 #[.val (.int (own_f5_1 x0)), .val (.int ((own_f5_2 x0) + (-8 : Int32)))] [(.int (XT.ushr (own_f5_1 x0) (8 : Int32)))]))
          refine own_Goes.step (fun t k => XS.istoreN X0.here hx rfl (hb hby d5_47) rfl (l' := #[.val (.int (XT.ushr (own_f5_1 x0) (8 : Int32))), .val (.int ((own_f5_2 x0) + (-8 : Int32)))]) rfl k) ?_
          show own_Goes p e below s (own_F5 Z x0 h0) 0 0 (s₁.setTop (mkF m 48 #[.val (.int (XT.ushr (own_f5_1 x0) (8 : Int32))), .val (.int ((own_f5_2 x0) + (-8 : Int32)))] []))
          rw [show (own_f5_3 x0) = (XT.ushr (own_f5_1 x0) (8 : Int32)) from by simp only [own_f5_3, if_neg hc3]] at J8
          rw [show (own_f5_4 x0) = ((own_f5_2 x0) + (-8 : Int32)) from by simp only [own_f5_4, if_neg hc3]] at J8
          exact J8
      by_cases hc2 : x0 < (65536 : Int32)
      · refine own_Goes.step (fun t k => XS.icmpYes X0.here hx rfl (pc0 := 22) (pc' := 33) rfl (hb hby d5_22) rfl (XT.ii_lt_t hc2) (by decide) (by decide) k) ?_
        show own_Goes p e below s (own_F5 Z x0 h0) 0 0 (s₁.setTop (mkF m 33 #[.val (.int x0), .val (.int (31 : Int32))] []))
        rw [show (own_f5_1 x0) = x0 from by simp only [own_f5_1, if_pos hc2]] at J9
        rw [show (own_f5_2 x0) = (31 : Int32) from by simp only [own_f5_2, if_pos hc2]] at J9
        exact J9
      · refine own_Goes.step (fun t k => XS.icmpNo X0.here hx rfl (hb hby d5_22) rfl (XT.ii_lt_f hc2) k) ?_
        show own_Goes p e below s (own_F5 Z x0 h0) 0 0 (s₁.setTop (mkF m 25 #[.val (.int x0), .val (.int (31 : Int32))] []))
        refine own_Goes.step (fun t k => XT.iincV X0.here hx rfl (-16 : Int32) (hb hby d5_25) (by decide) rfl (l' := #[.val (.int x0), .val (.int ((31 : Int32) + (-16 : Int32)))]) rfl k) ?_
        show own_Goes p e below s (own_F5 Z x0 h0) 0 0 (s₁.setTop (mkF m 28 #[.val (.int x0), .val (.int ((31 : Int32) + (-16 : Int32)))] []))
        refine own_Goes.step (fun t k => XS.iloadN X0.here hx rfl (hb hby d5_28) rfl k) ?_
        show own_Goes p e below s (own_F5 Z x0 h0) 0 0 (s₁.setTop (mkF m 29 #[.val (.int x0), .val (.int ((31 : Int32) + (-16 : Int32)))] [(.int x0)]))
        refine own_Goes.step (fun t k => XT.bipushV X0.here hx rfl (16 : Int32) (hb hby d5_29) (by decide) k) ?_
        show own_Goes p e below s (own_F5 Z x0 h0) 0 0 (s₁.setTop (mkF m 31 #[.val (.int x0), .val (.int ((31 : Int32) + (-16 : Int32)))] [(.int (16 : Int32)), (.int x0)]))
        refine own_Goes.step (fun t k => XT.iushr X0.here hx rfl (hb hby d5_31) rfl k) ?_
        show own_Goes p e below s (own_F5 Z x0 h0) 0 0 (s₁.setTop (mkF m 32 #[.val (.int x0), .val (.int ((31 : Int32) + (-16 : Int32)))] [(.int (XT.ushr x0 (16 : Int32)))]))
        refine own_Goes.step (fun t k => XS.istoreN X0.here hx rfl (hb hby d5_32) rfl (l' := #[.val (.int (XT.ushr x0 (16 : Int32))), .val (.int ((31 : Int32) + (-16 : Int32)))]) rfl k) ?_
        show own_Goes p e below s (own_F5 Z x0 h0) 0 0 (s₁.setTop (mkF m 33 #[.val (.int (XT.ushr x0 (16 : Int32))), .val (.int ((31 : Int32) + (-16 : Int32)))] []))
        rw [show (own_f5_1 x0) = (XT.ushr x0 (16 : Int32)) from by simp only [own_f5_1, if_neg hc2]] at J9
        rw [show (own_f5_2 x0) = ((31 : Int32) + (-16 : Int32)) from by simp only [own_f5_2, if_neg hc2]] at J9
        exact J9
    · refine own_Goes.step (fun t k => XS.ifNo X0.here hx rfl (hb hby d5_1) rfl (XT.i0_gt_f hc1) k) ?_
      show own_Goes p e below s (own_F5 Z x0 h0) 0 0 (s₁.setTop (mkF m 4 #[.val (.int x0), .unset] []))
      refine own_Goes.step (fun t k => XS.iloadN X0.here hx rfl (hb hby d5_4) rfl k) ?_
      show own_Goes p e below s (own_F5 Z x0 h0) 0 0 (s₁.setTop (mkF m 5 #[.val (.int x0), .unset] [(.int x0)]))
      by_cases hc10 : x0 = (0 : Int32)
      · refine own_Goes.step (fun t k => XS.ifNo X0.here hx rfl (hb hby d5_5) rfl (XT.i0_ne_f hc10) k) ?_
        show own_Goes p e below s (own_F5 Z x0 h0) 0 0 (s₁.setTop (mkF m 8 #[.val (.int x0), .unset] []))
        refine own_Goes.step (fun t k => XT.bipushV X0.here hx rfl (32 : Int32) (hb hby d5_8) (by decide) k) ?_
        show own_Goes p e below s (own_F5 Z x0 h0) 0 0 (s₁.setTop (mkF m 10 #[.val (.int x0), .unset] [(.int (32 : Int32))]))
        refine own_Goes.step (fun t k => XS.goto X0.here hx rfl (pc0 := 10) (pc' := 14) rfl (hb hby d5_10) (by decide) (by decide) k) ?_
        show own_Goes p e below s (own_F5 Z x0 h0) 0 0 (s₁.setTop (mkF m 14 #[.val (.int x0), .unset] [(.int (32 : Int32))]))
        exact own_endI X0 hx Bd.notSynchronized Bd.returns (hb hby d5_14) ⟨(congrArg (fun z => some (Value.int z)) (show (32 : Int32) = own_f5 x0 from by simp only [own_f5, if_neg hc1, if_pos hc10])), rfl, e0⟩ (by decide) (by decide)
      · refine own_Goes.step (fun t k => XS.ifYes X0.here hx rfl (pc0 := 5) (pc' := 13) rfl (hb hby d5_5) rfl (XT.i0_ne_t hc10) (by decide) (by decide) k) ?_
        show own_Goes p e below s (own_F5 Z x0 h0) 0 0 (s₁.setTop (mkF m 13 #[.val (.int x0), .unset] []))
        refine own_Goes.step (fun t k => XT.iconstV X0.here hx rfl (0 : Int32) (hb hby d5_13) (by decide) k) ?_
        show own_Goes p e below s (own_F5 Z x0 h0) 0 0 (s₁.setTop (mkF m 14 #[.val (.int x0), .unset] [(.int (0 : Int32))]))
        exact own_endI X0 hx Bd.notSynchronized Bd.returns (hb hby d5_14) ⟨(congrArg (fun z => some (Value.int z)) (show (0 : Int32) = own_f5 x0 from by simp only [own_f5, if_neg hc1, if_neg hc10])), rfl, e0⟩ (by decide) (by decide)
  obtain ⟨t2, o2, q1, q2, q3, q4⟩ := hgo
  exact ⟨t2, o2, castTop (ef_5 m x0) q1, q2, q3, q4⟩
theorem d3_0 : decode prog_20_method_1_code 0 = .ok (.aload_n 0, 1) := by decide +kernel
theorem d3_1 : decode prog_20_method_1_code 1 = .ok (.invokespecial 1, 3) := by decide +kernel
theorem d3_4 : decode prog_20_method_1_code 4 = .ok (.aload_n 0, 1) := by decide +kernel
theorem d3_5 : decode prog_20_method_1_code 5 = .ok (.iload_n 1, 1) := by decide +kernel
theorem d3_6 : decode prog_20_method_1_code 6 = .ok (.putfield 7, 3) := by decide +kernel
theorem d3_9 : decode prog_20_method_1_code 9 = .ok (.aload_n 0, 1) := by decide +kernel
theorem d3_10 : decode prog_20_method_1_code 10 = .ok (.bipush 31, 2) := by decide +kernel
theorem d3_12 : decode prog_20_method_1_code 12 = .ok (.bipush 32, 2) := by decide +kernel
theorem d3_14 : decode prog_20_method_1_code 14 = .ok (.iload_n 1, 1) := by decide +kernel
theorem d3_15 : decode prog_20_method_1_code 15 = .ok (.iconst 1, 1) := by decide +kernel
theorem d3_16 : decode prog_20_method_1_code 16 = .ok (.isub, 1) := by decide +kernel
theorem d3_17 : decode prog_20_method_1_code 17 = .ok (.invokestatic 13, 3) := by decide +kernel
theorem d3_20 : decode prog_20_method_1_code 20 = .ok (.isub, 1) := by decide +kernel
theorem d3_21 : decode prog_20_method_1_code 21 = .ok (.iadd, 1) := by decide +kernel
theorem d3_22 : decode prog_20_method_1_code 22 = .ok (.putfield 19, 3) := by decide +kernel
theorem d3_25 : decode prog_20_method_1_code 25 = .ok (.aload_n 0, 1) := by decide +kernel
theorem d3_26 : decode prog_20_method_1_code 26 = .ok (.lconst 1, 1) := by decide +kernel
theorem d3_27 : decode prog_20_method_1_code 27 = .ok (.aload_n 0, 1) := by decide +kernel
theorem d3_28 : decode prog_20_method_1_code 28 = .ok (.getfield 19, 3) := by decide +kernel
theorem d3_31 : decode prog_20_method_1_code 31 = .ok (.lshl, 1) := by decide +kernel
theorem d3_32 : decode prog_20_method_1_code 32 = .ok (.iload_n 1, 1) := by decide +kernel
theorem d3_33 : decode prog_20_method_1_code 33 = .ok (.i2l, 1) := by decide +kernel
theorem d3_34 : decode prog_20_method_1_code 34 = .ok (.ladd, 1) := by decide +kernel
theorem d3_35 : decode prog_20_method_1_code 35 = .ok (.lconst 1, 1) := by decide +kernel
theorem d3_36 : decode prog_20_method_1_code 36 = .ok (.lsub, 1) := by decide +kernel
theorem d3_37 : decode prog_20_method_1_code 37 = .ok (.iload_n 1, 1) := by decide +kernel
theorem d3_38 : decode prog_20_method_1_code 38 = .ok (.i2l, 1) := by decide +kernel
theorem d3_39 : decode prog_20_method_1_code 39 = .ok (.ldiv, 1) := by decide +kernel
theorem d3_40 : decode prog_20_method_1_code 40 = .ok (.putfield 22, 3) := by decide +kernel
theorem d3_43 : decode prog_20_method_1_code 43 = .ok (.return_, 1) := by decide +kernel
theorem pn_3 : plainName "com/example/keystead/keystead/Divisor" = true := by first | (simp [plainName, overriddenIn]; done) | decide +kernel
theorem pd_3 : parseMethodDescriptor "(I)V" = some ⟨[.int], none⟩ := by decide +kernel
theorem ef_3 (m : MethodId) (x0 : Addr) (x1 : Int32) : entryFrame m #[(.ref x0), (.int x1)] 2 = mkF m 0 #[.val (.ref x0), .val (.int x1)] [] := by first | (simp [entryFrame, mkF, argsToLocals, Value.category]; done) | rfl
def own_f3_1 (x1 : Int32) : Int32 := ((31 : Int32) + ((32 : Int32) - (own_f5 (x1 - (1 : Int32)))))
def own_f3_2 (x1 : Int32) : Int64 := (((((1 : Int64) <<< ((own_f3_1 x1).toInt64 &&& 63)) + x1.toInt64) - (1 : Int64)) / x1.toInt64)
def own_f3_divisor (x1 : Int32) : Int32 := x1
def own_f3_shift (x1 : Int32) : Int32 := (own_f3_1 x1)
def own_f3_multiplier (x1 : Int32) : Int64 := (own_f3_2 x1)
def own_F3 (Z : State) (x0 : Addr) (x1 : Int32)  (n0 : Nat) (h0 : Heap) (v : Option Value) (h : Heap) (L : List Loc) : Prop := v = none ∧ Fr n0 L ∧ Keep h0 h [x0] ∧ Exa Z h x0 "com/example/keystead/keystead/Divisor" ∧ Fld Z h x0 "com/example/keystead/keystead/Divisor" "divisor" "I" (.int (own_f3_divisor x1)) ∧ Fld Z h x0 "com/example/keystead/keystead/Divisor" "shift" "I" (.int (own_f3_shift x1)) ∧ Fld Z h x0 "com/example/keystead/keystead/Divisor" "multiplier" "J" (.long (own_f3_multiplier x1))
set_option maxRecDepth 65536 in
set_option maxHeartbeats 40000000 in
theorem own_m3 (l : Launch) (Z : State) (a0 : Array Value) (hw : ∀ d ∈ tables_1, d.before a0 Z = true) (ws : List Jvm.Cond) (x0 : Addr) (x1 : Int32)  (n0 : Nat) (h0 : Heap) (E0 : Exa Z h0 x0 "com/example/keystead/keystead/Divisor") (g0 : n0 ≤ x0) (P0 : Fld Z h0 x0 "com/example/keystead/keystead/Divisor" "divisor" "I" (.int (0 : Int32))) (P1 : Fld Z h0 x0 "com/example/keystead/keystead/Divisor" "shift" "I" (.int (0 : Int32))) (P2 : Fld Z h0 x0 "com/example/keystead/keystead/Divisor" "multiplier" "J" (.long (0 : Int64))) (hnz : ¬ x1.toInt64 = (0 : Int64)) :
    MetFree l (⟨"com/example/keystead/keystead/Divisor", "<init>", "(I)V"⟩ : MethodName) (head1 (Jvm.Cond.code (⟨"com/example/keystead/keystead/Divisor", "<init>", "(I)V"⟩ : MethodName) prog_20_method_1_code 2 none :: ws) ({ frames := 1, cells := 0, slots := 0, locals := 16 } : Room)) (fun a U => a = #[(.ref x0), (.int x1)] ∧ Z.Warmed39 U.vm ∧ U.heap = h0) (fun _ _ _ _ _ => True) (fun _ U o U' => ∃ v L, o = .returned v ∧ own_F3 Z x0 x1 n0 h0 v U'.heap L ∧ FrameEnd U o U' L ({ frames := 1, cells := 0, slots := 0, locals := 16 } : Room).cells ({ frames := 1, cells := 0, slots := 0, locals := 16 } : Room).slots) := by
  refine MetFree.of_bodySF (plainFor_of_name pn_3) hisR ?_
  intro p e s m args below meth c s₁ Bd hml0 hP hK
  obtain ⟨rfl, hZ, hh⟩ := hP
  have hx := Bd.exec
  have hby := Bd.bytes
  have hml : c.maxLocals = 2 := hml0
  have hown : s.vm.findClass "com/example/keystead/keystead/Divisor" = some m.cls := findClass_of_methodNamed Bd.named
  have hnm := (name_of_methodNamed Bd.named Bd.method).1
  have X0 : Stand p l e ({ frames := 1, cells := 0, slots := 0, locals := 16 } : Room) s m #[(.ref x0), (.int x1)] below meth c s₁ [] 0 0 := Stand.of_body Bd
  have e0 : s₁.heap = h0 := by rw [← hh, Bd.state]; rfl
  have N0 := Fr.nil n0
  have K0 : Keep h0 h0 [x0] := Keep.refl h0 [x0]
  have Z0 : n0 ≤ h0.size := Nat.le_trans g0 (Nat.le_of_lt E0.lt)
  have hgo : own_Goes p e below s (own_F3 Z x0 x1 n0 h0) 0 0 (s₁.setTop (mkF m 0 #[.val (.ref x0), .val (.int x1)] [])) := by
    refine own_Goes.step (fun t k => XS.aloadN X0.here hx rfl (hb hby d3_0) rfl rfl k) ?_
    show own_Goes p e below s (own_F3 Z x0 x1 n0 h0) 0 0 (s₁.setTop (mkF m 1 #[.val (.ref x0), .val (.int x1)] [(.ref x0)]))
    obtain ⟨T1, X1, e1, st1⟩ := initO X0 hx hZ hown (hw _ (List.mem_of_getElem? (i := 15) rfl)) (hw _ (List.mem_of_getElem? (i := 16) rfl)) (hw _ (List.mem_of_getElem? (i := 17) rfl)) e0 (g := (mkF m 1 #[.val (.ref x0), .val (.int x1)] [(.ref x0)])) rfl (by rw [hml]; rfl) rfl (hb hby d3_1) (by decide) (W := 0) (by show 2 * 0 + _ ≤ _; exact Nat.le_of_eq rfl) (by decide)
    refine own_Goes.step st1 ?_
    show own_Goes p e below s (own_F3 Z x0 x1 n0 h0) 0 0 (T1.setTop (mkF m 4 #[.val (.ref x0), .val (.int x1)] []))
    refine own_Goes.step (fun t k => XS.aloadN X1.here hx rfl (hb hby d3_4) rfl rfl k) ?_
    show own_Goes p e below s (own_F3 Z x0 x1 n0 h0) 0 0 (T1.setTop (mkF m 5 #[.val (.ref x0), .val (.int x1)] [(.ref x0)]))
    refine own_Goes.step (fun t k => XS.iloadN X1.here hx rfl (hb hby d3_5) rfl k) ?_
    show own_Goes p e below s (own_F3 Z x0 x1 n0 h0) 0 0 (T1.setTop (mkF m 6 #[.val (.ref x0), .val (.int x1)] [(.int x1), (.ref x0)]))
    obtain ⟨T2, h2, X2, e2, W2, st2⟩ := putF X1 hx hZ hown (host := "") (Or.inl (hw _ (List.mem_of_getElem? (i := 18) rfl))) Via.refl e1 (v := (.int x1)) P0 E0 (Or.inr ⟨(hw _ (List.mem_of_getElem? (i := 19) rfl)), rfl, hnm⟩) (hw _ (List.mem_of_getElem? (i := 10) rfl)) (ty := .int) (by decide) rfl rfl (g := (mkF m 6 #[.val (.ref x0), .val (.int x1)] [(.int x1), (.ref x0)])) rfl rfl (hb hby d3_6)
    refine own_Goes.step st2 ?_
    have f3 := E0.wr W2
    have f4 := P0.same W2
    have f5 := P1.other W2 (Or.inr (slot_ne (Or.inr (hw _ (List.mem_of_getElem? (i := 25) rfl))) (Or.inr (hw _ (List.mem_of_getElem? (i := 19) rfl))) (by decide) (t := .int) (t' := .int) (by decide) (by decide)))
    have f6 := P2.other W2 (Or.inr (slot_ne (Or.inr (hw _ (List.mem_of_getElem? (i := 27) rfl))) (Or.inr (hw _ (List.mem_of_getElem? (i := 19) rfl))) (by decide) (t := .long) (t' := .int) (by decide) (by decide)))
    have K7 := K0.wr W2 (Or.inl (List.mem_of_getElem? (i := 0) rfl))
    have N8 := Fr.snoc X2 N0 g0
    have Z9 : n0 ≤ h2.size := Nat.le_trans Z0 (Keep.of_wr W2).1
    show own_Goes p e below s (own_F3 Z x0 x1 n0 h0) 0 0 (T2.setTop (mkF m 9 #[.val (.ref x0), .val (.int x1)] []))
    refine own_Goes.step (fun t k => XS.aloadN X2.here hx rfl (hb hby d3_9) rfl rfl k) ?_
    show own_Goes p e below s (own_F3 Z x0 x1 n0 h0) 0 0 (T2.setTop (mkF m 10 #[.val (.ref x0), .val (.int x1)] [(.ref x0)]))
    refine own_Goes.step (fun t k => XT.bipushV X2.here hx rfl (31 : Int32) (hb hby d3_10) (by decide) k) ?_
    show own_Goes p e below s (own_F3 Z x0 x1 n0 h0) 0 0 (T2.setTop (mkF m 12 #[.val (.ref x0), .val (.int x1)] [(.int (31 : Int32)), (.ref x0)]))
    refine own_Goes.step (fun t k => XT.bipushV X2.here hx rfl (32 : Int32) (hb hby d3_12) (by decide) k) ?_
    show own_Goes p e below s (own_F3 Z x0 x1 n0 h0) 0 0 (T2.setTop (mkF m 14 #[.val (.ref x0), .val (.int x1)] [(.int (32 : Int32)), (.int (31 : Int32)), (.ref x0)]))
    refine own_Goes.step (fun t k => XS.iloadN X2.here hx rfl (hb hby d3_14) rfl k) ?_
    show own_Goes p e below s (own_F3 Z x0 x1 n0 h0) 0 0 (T2.setTop (mkF m 15 #[.val (.ref x0), .val (.int x1)] [(.int x1), (.int (32 : Int32)), (.int (31 : Int32)), (.ref x0)]))
    refine own_Goes.step (fun t k => XT.iconstV X2.here hx rfl (1 : Int32) (hb hby d3_15) (by decide) k) ?_
    show own_Goes p e below s (own_F3 Z x0 x1 n0 h0) 0 0 (T2.setTop (mkF m 16 #[.val (.ref x0), .val (.int x1)] [(.int (1 : Int32)), (.int x1), (.int (32 : Int32)), (.int (31 : Int32)), (.ref x0)]))
    refine own_Goes.step (fun t k => XS.isub X2.here hx rfl (hb hby d3_16) rfl k) ?_
    show own_Goes p e below s (own_F3 Z x0 x1 n0 h0) 0 0 (T2.setTop (mkF m 17 #[.val (.ref x0), .val (.int x1)] [(.int (x1 - (1 : Int32))), (.int (32 : Int32)), (.int (31 : Int32)), (.ref x0)]))
    obtain ⟨w10, T10, L10, q10, Y10, st10⟩ := own_stat X2 hx hZ e2 hown (hw _ (List.mem_of_getElem? (i := 20) rfl)) (hw _ (List.mem_of_getElem? (i := 21) rfl)) (hw _ (List.mem_of_getElem? (i := 22) rfl)) (hw _ (List.mem_of_getElem? (i := 23) rfl)) (by decide) (own_m5 l Z a0 hw [] (x1 - (1 : Int32)) h2 ) (by decide) (W := 3) (by decide) (by decide) (by decide) (g := (mkF m 17 #[.val (.ref x0), .val (.int x1)] [(.int (x1 - (1 : Int32))), (.int (32 : Int32)), (.int (31 : Int32)), (.ref x0)])) rfl (by rw [hml]; rfl) (argsL := [(.int (x1 - (1 : Int32)))]) (rest := [(.int (32 : Int32)), (.int (31 : Int32)), (.ref x0)]) (lenOf pd_5 rfl) rfl (by show 2 * 0 + _ ≤ _; exact Nat.le_of_eq rfl) (hb hby d3_17)
    obtain ⟨e10, X10⟩ := own_clean q10 Y10 rfl rfl
    obtain ⟨rfl, -, -⟩ := q10
    refine own_Goes.step st10 ?_
    show own_Goes p e below s (own_F3 Z x0 x1 n0 h0) 0 0 (T10.setTop (mkF m 20 #[.val (.ref x0), .val (.int x1)] [(.int (own_f5 (x1 - (1 : Int32)))), (.int (32 : Int32)), (.int (31 : Int32)), (.ref x0)]))
    refine own_Goes.step (fun t k => XS.isub X10.here hx rfl (hb hby d3_20) rfl k) ?_
    show own_Goes p e below s (own_F3 Z x0 x1 n0 h0) 0 0 (T10.setTop (mkF m 21 #[.val (.ref x0), .val (.int x1)] [(.int ((32 : Int32) - (own_f5 (x1 - (1 : Int32))))), (.int (31 : Int32)), (.ref x0)]))
    refine own_Goes.step (fun t k => XS.iadd X10.here hx rfl (hb hby d3_21) rfl k) ?_
    show own_Goes p e below s (own_F3 Z x0 x1 n0 h0) 0 0 (T10.setTop (mkF m 22 #[.val (.ref x0), .val (.int x1)] [(.int ((31 : Int32) + ((32 : Int32) - (own_f5 (x1 - (1 : Int32)))))), (.ref x0)]))
    obtain ⟨T11, h11, X11, e11, W11, st11⟩ := putF X10 hx hZ hown (host := "") (Or.inl (hw _ (List.mem_of_getElem? (i := 24) rfl))) Via.refl e10 (v := (.int (own_f3_1 x1))) f5 f3 (Or.inr ⟨(hw _ (List.mem_of_getElem? (i := 25) rfl)), rfl, hnm⟩) (hw _ (List.mem_of_getElem? (i := 10) rfl)) (ty := .int) (by decide) rfl rfl (g := (mkF m 22 #[.val (.ref x0), .val (.int x1)] [(.int ((31 : Int32) + ((32 : Int32) - (own_f5 (x1 - (1 : Int32)))))), (.ref x0)])) rfl rfl (hb hby d3_22)
    refine own_Goes.step st11 ?_
    have f12 := f3.wr W11
    have f13 := f4.other W11 (Or.inr (slot_ne (Or.inr (hw _ (List.mem_of_getElem? (i := 19) rfl))) (Or.inr (hw _ (List.mem_of_getElem? (i := 25) rfl))) (by decide) (t := .int) (t' := .int) (by decide) (by decide)))
    have f14 := f5.same W11
    have f15 := f6.other W11 (Or.inr (slot_ne (Or.inr (hw _ (List.mem_of_getElem? (i := 27) rfl))) (Or.inr (hw _ (List.mem_of_getElem? (i := 25) rfl))) (by decide) (t := .long) (t' := .int) (by decide) (by decide)))
    have K16 := K7.wr W11 (Or.inl (List.mem_of_getElem? (i := 0) rfl))
    have N17 := Fr.snoc X11 N8 g0
    have Z18 : n0 ≤ h11.size := Nat.le_trans Z9 (Keep.of_wr W11).1
    show own_Goes p e below s (own_F3 Z x0 x1 n0 h0) 0 0 (T11.setTop (mkF m 25 #[.val (.ref x0), .val (.int x1)] []))
    refine own_Goes.step (fun t k => XS.aloadN X11.here hx rfl (hb hby d3_25) rfl rfl k) ?_
    show own_Goes p e below s (own_F3 Z x0 x1 n0 h0) 0 0 (T11.setTop (mkF m 26 #[.val (.ref x0), .val (.int x1)] [(.ref x0)]))
    refine own_Goes.step (fun t k => XT.lconstV X11.here hx rfl (1 : Int64) (hb hby d3_26) (by decide) k) ?_
    show own_Goes p e below s (own_F3 Z x0 x1 n0 h0) 0 0 (T11.setTop (mkF m 27 #[.val (.ref x0), .val (.int x1)] [(.long (1 : Int64)), (.ref x0)]))
    refine own_Goes.step (fun t k => XS.aloadN X11.here hx rfl (hb hby d3_27) rfl rfl k) ?_
    show own_Goes p e below s (own_F3 Z x0 x1 n0 h0) 0 0 (T11.setTop (mkF m 28 #[.val (.ref x0), .val (.int x1)] [(.ref x0), (.long (1 : Int64)), (.ref x0)]))
    obtain ⟨T19, X19, e19, st19⟩ := getF X11 hx hZ hown (host := "") (Or.inl (hw _ (List.mem_of_getElem? (i := 24) rfl))) Via.refl e11 f14 (g := (mkF m 28 #[.val (.ref x0), .val (.int x1)] [(.ref x0), (.long (1 : Int64)), (.ref x0)])) rfl rfl (hb hby d3_28)
    refine own_Goes.step st19 ?_
    show own_Goes p e below s (own_F3 Z x0 x1 n0 h0) 0 0 (T19.setTop (mkF m 31 #[.val (.ref x0), .val (.int x1)] [(.int (own_f3_1 x1)), (.long (1 : Int64)), (.ref x0)]))
    refine own_Goes.step (fun t k => XT.lshl X19.here hx rfl (hb hby d3_31) rfl k) ?_
    show own_Goes p e below s (own_F3 Z x0 x1 n0 h0) 0 0 (T19.setTop (mkF m 32 #[.val (.ref x0), .val (.int x1)] [(.long ((1 : Int64) <<< ((own_f3_1 x1).toInt64 &&& 63))), (.ref x0)]))
    refine own_Goes.step (fun t k => XS.iloadN X19.here hx rfl (hb hby d3_32) rfl k) ?_
    show own_Goes p e below s (own_F3 Z x0 x1 n0 h0) 0 0 (T19.setTop (mkF m 33 #[.val (.ref x0), .val (.int x1)] [(.int x1), (.long ((1 : Int64) <<< ((own_f3_1 x1).toInt64 &&& 63))), (.ref x0)]))
    refine own_Goes.step (fun t k => XT.i2l X19.here hx rfl (hb hby d3_33) rfl k) ?_
    show own_Goes p e below s (own_F3 Z x0 x1 n0 h0) 0 0 (T19.setTop (mkF m 34 #[.val (.ref x0), .val (.int x1)] [(.long x1.toInt64), (.long ((1 : Int64) <<< ((own_f3_1 x1).toInt64 &&& 63))), (.ref x0)]))
    refine own_Goes.step (fun t k => XT.ladd X19.here hx rfl (hb hby d3_34) rfl k) ?_
    show own_Goes p e below s (own_F3 Z x0 x1 n0 h0) 0 0 (T19.setTop (mkF m 35 #[.val (.ref x0), .val (.int x1)] [(.long (((1 : Int64) <<< ((own_f3_1 x1).toInt64 &&& 63)) + x1.toInt64)), (.ref x0)]))
    refine own_Goes.step (fun t k => XT.lconstV X19.here hx rfl (1 : Int64) (hb hby d3_35) (by decide) k) ?_
    show own_Goes p e below s (own_F3 Z x0 x1 n0 h0) 0 0 (T19.setTop (mkF m 36 #[.val (.ref x0), .val (.int x1)] [(.long (1 : Int64)), (.long (((1 : Int64) <<< ((own_f3_1 x1).toInt64 &&& 63)) + x1.toInt64)), (.ref x0)]))
    refine own_Goes.step (fun t k => XT.lsub X19.here hx rfl (hb hby d3_36) rfl k) ?_
    show own_Goes p e below s (own_F3 Z x0 x1 n0 h0) 0 0 (T19.setTop (mkF m 37 #[.val (.ref x0), .val (.int x1)] [(.long ((((1 : Int64) <<< ((own_f3_1 x1).toInt64 &&& 63)) + x1.toInt64) - (1 : Int64))), (.ref x0)]))
    refine own_Goes.step (fun t k => XS.iloadN X19.here hx rfl (hb hby d3_37) rfl k) ?_
    show own_Goes p e below s (own_F3 Z x0 x1 n0 h0) 0 0 (T19.setTop (mkF m 38 #[.val (.ref x0), .val (.int x1)] [(.int x1), (.long ((((1 : Int64) <<< ((own_f3_1 x1).toInt64 &&& 63)) + x1.toInt64) - (1 : Int64))), (.ref x0)]))
    refine own_Goes.step (fun t k => XT.i2l X19.here hx rfl (hb hby d3_38) rfl k) ?_
    show own_Goes p e below s (own_F3 Z x0 x1 n0 h0) 0 0 (T19.setTop (mkF m 39 #[.val (.ref x0), .val (.int x1)] [(.long x1.toInt64), (.long ((((1 : Int64) <<< ((own_f3_1 x1).toInt64 &&& 63)) + x1.toInt64) - (1 : Int64))), (.ref x0)]))
    refine own_Goes.step (fun t k => XT.ldiv X19.here hx rfl (hb hby d3_39) rfl hnz k) ?_
    show own_Goes p e below s (own_F3 Z x0 x1 n0 h0) 0 0 (T19.setTop (mkF m 40 #[.val (.ref x0), .val (.int x1)] [(.long (((((1 : Int64) <<< ((own_f3_1 x1).toInt64 &&& 63)) + x1.toInt64) - (1 : Int64)) / x1.toInt64)), (.ref x0)]))
    obtain ⟨T20, h20, X20, e20, W20, st20⟩ := putF X19 hx hZ hown (host := "") (Or.inl (hw _ (List.mem_of_getElem? (i := 26) rfl))) Via.refl e19 (v := (.long (own_f3_2 x1))) f15 f12 (Or.inr ⟨(hw _ (List.mem_of_getElem? (i := 27) rfl)), rfl, hnm⟩) (hw _ (List.mem_of_getElem? (i := 10) rfl)) (ty := .long) (by decide) rfl rfl (g := (mkF m 40 #[.val (.ref x0), .val (.int x1)] [(.long (((((1 : Int64) <<< ((own_f3_1 x1).toInt64 &&& 63)) + x1.toInt64) - (1 : Int64)) / x1.toInt64)), (.ref x0)])) rfl rfl (hb hby d3_40)
    refine own_Goes.step st20 ?_
    have f21 := f12.wr W20
    have f22 := f13.other W20 (Or.inr (slot_ne (Or.inr (hw _ (List.mem_of_getElem? (i := 19) rfl))) (Or.inr (hw _ (List.mem_of_getElem? (i := 27) rfl))) (by decide) (t := .int) (t' := .long) (by decide) (by decide)))
    have f23 := f14.other W20 (Or.inr (slot_ne (Or.inr (hw _ (List.mem_of_getElem? (i := 25) rfl))) (Or.inr (hw _ (List.mem_of_getElem? (i := 27) rfl))) (by decide) (t := .int) (t' := .long) (by decide) (by decide)))
    have f24 := f15.same W20
    have K25 := K16.wr W20 (Or.inl (List.mem_of_getElem? (i := 0) rfl))
    have N26 := Fr.snoc X20 N17 g0
    have Z27 : n0 ≤ h20.size := Nat.le_trans Z18 (Keep.of_wr W20).1
    show own_Goes p e below s (own_F3 Z x0 x1 n0 h0) 0 0 (T20.setTop (mkF m 43 #[.val (.ref x0), .val (.int x1)] []))
    refine own_endV X20 hx Bd.notSynchronized Bd.returns (hb hby d3_43) ?_ (by decide) (by decide)
    show own_F3 Z x0 x1 n0 h0 _ T20.heap _
    rw [e20]
    exact ⟨rfl, N26, K25, f21, f22, f23, f24⟩
  obtain ⟨t2, o2, q1, q2, q3, q4⟩ := hgo
  exact ⟨t2, o2, castTop (ef_3 m x0 x1) q1, q2, q3, q4⟩
theorem d2_0 : decode method_3_code 0 = .ok (.iload_n 2, 1) := by decide +kernel
theorem d2_1 : decode method_3_code 1 = .ok (.iconst 3, 1) := by decide +kernel
theorem d2_2 : decode method_3_code 2 = .ok (.iand, 1) := by decide +kernel
theorem d2_3 : decode method_3_code 3 = .ok (.istore_n 3, 1) := by decide +kernel
theorem d2_4 : decode method_3_code 4 = .ok (.iload_n 3, 1) := by decide +kernel
theorem d2_5 : decode method_3_code 5 = .ok (.ifCond .ne 9, 3) := by decide +kernel
theorem d2_8 : decode method_3_code 8 = .ok (.lload_n 0, 1) := by decide +kernel
theorem d2_9 : decode method_3_code 9 = .ok (.ldc2_w 8, 3) := by decide +kernel
theorem d2_12 : decode method_3_code 12 = .ok (.land, 1) := by decide +kernel
theorem d2_13 : decode method_3_code 13 = .ok (.lreturn, 1) := by decide +kernel
theorem d2_14 : decode method_3_code 14 = .ok (.iload_n 3, 1) := by decide +kernel
theorem d2_15 : decode method_3_code 15 = .ok (.iconst 1, 1) := by decide +kernel
theorem d2_16 : decode method_3_code 16 = .ok (.if_icmp .ne 9, 3) := by decide +kernel
theorem d2_19 : decode method_3_code 19 = .ok (.lload_n 0, 1) := by decide +kernel
theorem d2_20 : decode method_3_code 20 = .ok (.ldc2_w 12, 3) := by decide +kernel
theorem d2_23 : decode method_3_code 23 = .ok (.land, 1) := by decide +kernel
theorem d2_24 : decode method_3_code 24 = .ok (.lreturn, 1) := by decide +kernel
theorem d2_25 : decode method_3_code 25 = .ok (.iload_n 3, 1) := by decide +kernel
theorem d2_26 : decode method_3_code 26 = .ok (.iconst 2, 1) := by decide +kernel
theorem d2_27 : decode method_3_code 27 = .ok (.if_icmp .ne 13, 3) := by decide +kernel
theorem d2_30 : decode method_3_code 30 = .ok (.ldc2_w 8, 3) := by decide +kernel
theorem d2_33 : decode method_3_code 33 = .ok (.lload_n 0, 1) := by decide +kernel
theorem d2_34 : decode method_3_code 34 = .ok (.ldc2_w 14, 3) := by decide +kernel
theorem d2_37 : decode method_3_code 37 = .ok (.land, 1) := by decide +kernel
theorem d2_38 : decode method_3_code 38 = .ok (.lsub, 1) := by decide +kernel
theorem d2_39 : decode method_3_code 39 = .ok (.lreturn, 1) := by decide +kernel
theorem d2_40 : decode method_3_code 40 = .ok (.ldc2_w 16, 3) := by decide +kernel
theorem d2_43 : decode method_3_code 43 = .ok (.lload_n 0, 1) := by decide +kernel
theorem d2_44 : decode method_3_code 44 = .ok (.ldc2_w 14, 3) := by decide +kernel
theorem d2_47 : decode method_3_code 47 = .ok (.land, 1) := by decide +kernel
theorem d2_48 : decode method_3_code 48 = .ok (.ladd, 1) := by decide +kernel
theorem d2_49 : decode method_3_code 49 = .ok (.lreturn, 1) := by decide +kernel
theorem pn_2 : plainName "com/example/keystead/keystead/DivisorQuotientPinLaw" = true := by first | (simp [plainName, overriddenIn]; done) | decide +kernel
theorem pd_2 : parseMethodDescriptor "(JI)J" = some ⟨[.long, .int], (some .long)⟩ := by decide +kernel
theorem ef_2 (m : MethodId) (x0 : Int64) (x1 : Int32) : entryFrame m #[(.long x0), (.int x1)] 4 = mkF m 0 #[.val (.long x0), .second, .val (.int x1), .unset] [] := by first | (simp [entryFrame, mkF, argsToLocals, Value.category]; done) | rfl
def own_f2 (x0 : Int64) (x1 : Int32) : Int64 := (if (x1 &&& (3 : Int32)) = (0 : Int32) then (x0 &&& (2147483647 : Int64)) else (if (x1 &&& (3 : Int32)) = (1 : Int32) then (x0 &&& (9223372036854775807 : Int64)) else (if (x1 &&& (3 : Int32)) = (2 : Int32) then ((2147483647 : Int64) - (x0 &&& (65535 : Int64))) else ((2147483648 : Int64) + (x0 &&& (65535 : Int64))))))
def own_F2 (Z : State) (x0 : Int64) (x1 : Int32)  (h0 : Heap) (v : Option Value) (h : Heap) (L : List Loc) : Prop := v = some (.long (own_f2 x0 x1)) ∧ L = [] ∧ h = h0
set_option maxRecDepth 65536 in
set_option maxHeartbeats 40000000 in
theorem own_m2 (l : Launch) (Z : State) (a0 : Array Value) (hw : ∀ d ∈ tables_1, d.before a0 Z = true) (ws : List Jvm.Cond) (x0 : Int64) (x1 : Int32)  (h0 : Heap)   :
    MetFree l (⟨"com/example/keystead/keystead/DivisorQuotientPinLaw", "pickN", "(JI)J"⟩ : MethodName) (head1 (Jvm.Cond.code (⟨"com/example/keystead/keystead/DivisorQuotientPinLaw", "pickN", "(JI)J"⟩ : MethodName) method_3_code 4 (some .long) :: ws) ({ frames := 0, cells := 0, slots := 0, locals := 0 } : Room)) (fun a U => a = #[(.long x0), (.int x1)] ∧ Z.Warmed39 U.vm ∧ U.heap = h0) (fun _ _ _ _ _ => True) (fun _ U o U' => ∃ v L, o = .returned v ∧ own_F2 Z x0 x1 h0 v U'.heap L ∧ FrameEnd U o U' L ({ frames := 0, cells := 0, slots := 0, locals := 0 } : Room).cells ({ frames := 0, cells := 0, slots := 0, locals := 0 } : Room).slots) := by
  refine MetFree.of_bodySF (plainFor_of_name pn_2) hisR ?_
  intro p e s m args below meth c s₁ Bd hml0 hP hK
  obtain ⟨rfl, hZ, hh⟩ := hP
  have hx := Bd.exec
  have hby := Bd.bytes
  have hml : c.maxLocals = 4 := hml0
  have hown : s.vm.findClass "com/example/keystead/keystead/DivisorQuotientPinLaw" = some m.cls := findClass_of_methodNamed Bd.named
  have hnm := (name_of_methodNamed Bd.named Bd.method).1
  have X0 : Stand p l e ({ frames := 0, cells := 0, slots := 0, locals := 0 } : Room) s m #[(.long x0), (.int x1)] below meth c s₁ [] 0 0 := Stand.of_body Bd
  have e0 : s₁.heap = h0 := by rw [← hh, Bd.state]; rfl
  have hgo : own_Goes p e below s (own_F2 Z x0 x1 h0) 0 0 (s₁.setTop (mkF m 0 #[.val (.long x0), .second, .val (.int x1), .unset] [])) := by
    refine own_Goes.step (fun t k => XS.iloadN X0.here hx rfl (hb hby d2_0) rfl k) ?_
    show own_Goes p e below s (own_F2 Z x0 x1 h0) 0 0 (s₁.setTop (mkF m 1 #[.val (.long x0), .second, .val (.int x1), .unset] [(.int x1)]))
    refine own_Goes.step (fun t k => XT.iconstV X0.here hx rfl (3 : Int32) (hb hby d2_1) (by decide) k) ?_
    show own_Goes p e below s (own_F2 Z x0 x1 h0) 0 0 (s₁.setTop (mkF m 2 #[.val (.long x0), .second, .val (.int x1), .unset] [(.int (3 : Int32)), (.int x1)]))
    refine own_Goes.step (fun t k => XS.iand X0.here hx rfl (hb hby d2_2) rfl k) ?_
    show own_Goes p e below s (own_F2 Z x0 x1 h0) 0 0 (s₁.setTop (mkF m 3 #[.val (.long x0), .second, .val (.int x1), .unset] [(.int (x1 &&& (3 : Int32)))]))
    refine own_Goes.step (fun t k => XS.istoreN X0.here hx rfl (hb hby d2_3) rfl (l' := #[.val (.long x0), .second, .val (.int x1), .val (.int (x1 &&& (3 : Int32)))]) rfl k) ?_
    show own_Goes p e below s (own_F2 Z x0 x1 h0) 0 0 (s₁.setTop (mkF m 4 #[.val (.long x0), .second, .val (.int x1), .val (.int (x1 &&& (3 : Int32)))] []))
    refine own_Goes.step (fun t k => XS.iloadN X0.here hx rfl (hb hby d2_4) rfl k) ?_
    show own_Goes p e below s (own_F2 Z x0 x1 h0) 0 0 (s₁.setTop (mkF m 5 #[.val (.long x0), .second, .val (.int x1), .val (.int (x1 &&& (3 : Int32)))] [(.int (x1 &&& (3 : Int32)))]))
    by_cases hc1 : (x1 &&& (3 : Int32)) = (0 : Int32)
    · refine own_Goes.step (fun t k => XS.ifNo X0.here hx rfl (hb hby d2_5) rfl (XT.i0_ne_f hc1) k) ?_
      show own_Goes p e below s (own_F2 Z x0 x1 h0) 0 0 (s₁.setTop (mkF m 8 #[.val (.long x0), .second, .val (.int x1), .val (.int (x1 &&& (3 : Int32)))] []))
      refine own_Goes.step (fun t k => XT.lloadN X0.here hx rfl (hb hby d2_8) rfl k) ?_
      show own_Goes p e below s (own_F2 Z x0 x1 h0) 0 0 (s₁.setTop (mkF m 9 #[.val (.long x0), .second, .val (.int x1), .val (.int (x1 &&& (3 : Int32)))] [(.long x0)]))
      refine own_Goes.step (fun t k => X0.ldc2J hx hown (mvT hZ (hw _ (List.mem_of_getElem? (i := 34) rfl))) rfl (hb hby d2_9) k) ?_
      show own_Goes p e below s (own_F2 Z x0 x1 h0) 0 0 (s₁.setTop (mkF m 12 #[.val (.long x0), .second, .val (.int x1), .val (.int (x1 &&& (3 : Int32)))] [(.long (2147483647 : Int64)), (.long x0)]))
      refine own_Goes.step (fun t k => XT.land X0.here hx rfl (hb hby d2_12) rfl k) ?_
      show own_Goes p e below s (own_F2 Z x0 x1 h0) 0 0 (s₁.setTop (mkF m 13 #[.val (.long x0), .second, .val (.int x1), .val (.int (x1 &&& (3 : Int32)))] [(.long (x0 &&& (2147483647 : Int64)))]))
      exact own_endJ X0 hx Bd.notSynchronized Bd.returns (hb hby d2_13) ⟨(congrArg (fun z => some (Value.long z)) (show (x0 &&& (2147483647 : Int64)) = own_f2 x0 x1 from by simp only [own_f2, if_pos hc1])), rfl, e0⟩ (by decide) (by decide)
    · refine own_Goes.step (fun t k => XS.ifYes X0.here hx rfl (pc0 := 5) (pc' := 14) rfl (hb hby d2_5) rfl (XT.i0_ne_t hc1) (by decide) (by decide) k) ?_
      show own_Goes p e below s (own_F2 Z x0 x1 h0) 0 0 (s₁.setTop (mkF m 14 #[.val (.long x0), .second, .val (.int x1), .val (.int (x1 &&& (3 : Int32)))] []))
      refine own_Goes.step (fun t k => XS.iloadN X0.here hx rfl (hb hby d2_14) rfl k) ?_
      show own_Goes p e below s (own_F2 Z x0 x1 h0) 0 0 (s₁.setTop (mkF m 15 #[.val (.long x0), .second, .val (.int x1), .val (.int (x1 &&& (3 : Int32)))] [(.int (x1 &&& (3 : Int32)))]))
      refine own_Goes.step (fun t k => XT.iconstV X0.here hx rfl (1 : Int32) (hb hby d2_15) (by decide) k) ?_
      show own_Goes p e below s (own_F2 Z x0 x1 h0) 0 0 (s₁.setTop (mkF m 16 #[.val (.long x0), .second, .val (.int x1), .val (.int (x1 &&& (3 : Int32)))] [(.int (1 : Int32)), (.int (x1 &&& (3 : Int32)))]))
      by_cases hc2 : (x1 &&& (3 : Int32)) = (1 : Int32)
      · refine own_Goes.step (fun t k => XS.icmpNo X0.here hx rfl (hb hby d2_16) rfl (XT.ii_ne_f hc2) k) ?_
        show own_Goes p e below s (own_F2 Z x0 x1 h0) 0 0 (s₁.setTop (mkF m 19 #[.val (.long x0), .second, .val (.int x1), .val (.int (x1 &&& (3 : Int32)))] []))
        refine own_Goes.step (fun t k => XT.lloadN X0.here hx rfl (hb hby d2_19) rfl k) ?_
        show own_Goes p e below s (own_F2 Z x0 x1 h0) 0 0 (s₁.setTop (mkF m 20 #[.val (.long x0), .second, .val (.int x1), .val (.int (x1 &&& (3 : Int32)))] [(.long x0)]))
        refine own_Goes.step (fun t k => X0.ldc2J hx hown (mvT hZ (hw _ (List.mem_of_getElem? (i := 8) rfl))) rfl (hb hby d2_20) k) ?_
        show own_Goes p e below s (own_F2 Z x0 x1 h0) 0 0 (s₁.setTop (mkF m 23 #[.val (.long x0), .second, .val (.int x1), .val (.int (x1 &&& (3 : Int32)))] [(.long (9223372036854775807 : Int64)), (.long x0)]))
        refine own_Goes.step (fun t k => XT.land X0.here hx rfl (hb hby d2_23) rfl k) ?_
        show own_Goes p e below s (own_F2 Z x0 x1 h0) 0 0 (s₁.setTop (mkF m 24 #[.val (.long x0), .second, .val (.int x1), .val (.int (x1 &&& (3 : Int32)))] [(.long (x0 &&& (9223372036854775807 : Int64)))]))
        exact own_endJ X0 hx Bd.notSynchronized Bd.returns (hb hby d2_24) ⟨(congrArg (fun z => some (Value.long z)) (show (x0 &&& (9223372036854775807 : Int64)) = own_f2 x0 x1 from by simp only [own_f2, if_neg hc1, if_pos hc2])), rfl, e0⟩ (by decide) (by decide)
      · refine own_Goes.step (fun t k => XS.icmpYes X0.here hx rfl (pc0 := 16) (pc' := 25) rfl (hb hby d2_16) rfl (XT.ii_ne_t hc2) (by decide) (by decide) k) ?_
        show own_Goes p e below s (own_F2 Z x0 x1 h0) 0 0 (s₁.setTop (mkF m 25 #[.val (.long x0), .second, .val (.int x1), .val (.int (x1 &&& (3 : Int32)))] []))
        refine own_Goes.step (fun t k => XS.iloadN X0.here hx rfl (hb hby d2_25) rfl k) ?_
        show own_Goes p e below s (own_F2 Z x0 x1 h0) 0 0 (s₁.setTop (mkF m 26 #[.val (.long x0), .second, .val (.int x1), .val (.int (x1 &&& (3 : Int32)))] [(.int (x1 &&& (3 : Int32)))]))
        refine own_Goes.step (fun t k => XT.iconstV X0.here hx rfl (2 : Int32) (hb hby d2_26) (by decide) k) ?_
        show own_Goes p e below s (own_F2 Z x0 x1 h0) 0 0 (s₁.setTop (mkF m 27 #[.val (.long x0), .second, .val (.int x1), .val (.int (x1 &&& (3 : Int32)))] [(.int (2 : Int32)), (.int (x1 &&& (3 : Int32)))]))
        by_cases hc3 : (x1 &&& (3 : Int32)) = (2 : Int32)
        · refine own_Goes.step (fun t k => XS.icmpNo X0.here hx rfl (hb hby d2_27) rfl (XT.ii_ne_f hc3) k) ?_
          show own_Goes p e below s (own_F2 Z x0 x1 h0) 0 0 (s₁.setTop (mkF m 30 #[.val (.long x0), .second, .val (.int x1), .val (.int (x1 &&& (3 : Int32)))] []))
          refine own_Goes.step (fun t k => X0.ldc2J hx hown (mvT hZ (hw _ (List.mem_of_getElem? (i := 34) rfl))) rfl (hb hby d2_30) k) ?_
          show own_Goes p e below s (own_F2 Z x0 x1 h0) 0 0 (s₁.setTop (mkF m 33 #[.val (.long x0), .second, .val (.int x1), .val (.int (x1 &&& (3 : Int32)))] [(.long (2147483647 : Int64))]))
          refine own_Goes.step (fun t k => XT.lloadN X0.here hx rfl (hb hby d2_33) rfl k) ?_
          show own_Goes p e below s (own_F2 Z x0 x1 h0) 0 0 (s₁.setTop (mkF m 34 #[.val (.long x0), .second, .val (.int x1), .val (.int (x1 &&& (3 : Int32)))] [(.long x0), (.long (2147483647 : Int64))]))
          refine own_Goes.step (fun t k => X0.ldc2J hx hown (mvT hZ (hw _ (List.mem_of_getElem? (i := 35) rfl))) rfl (hb hby d2_34) k) ?_
          show own_Goes p e below s (own_F2 Z x0 x1 h0) 0 0 (s₁.setTop (mkF m 37 #[.val (.long x0), .second, .val (.int x1), .val (.int (x1 &&& (3 : Int32)))] [(.long (65535 : Int64)), (.long x0), (.long (2147483647 : Int64))]))
          refine own_Goes.step (fun t k => XT.land X0.here hx rfl (hb hby d2_37) rfl k) ?_
          show own_Goes p e below s (own_F2 Z x0 x1 h0) 0 0 (s₁.setTop (mkF m 38 #[.val (.long x0), .second, .val (.int x1), .val (.int (x1 &&& (3 : Int32)))] [(.long (x0 &&& (65535 : Int64))), (.long (2147483647 : Int64))]))
          refine own_Goes.step (fun t k => XT.lsub X0.here hx rfl (hb hby d2_38) rfl k) ?_
          show own_Goes p e below s (own_F2 Z x0 x1 h0) 0 0 (s₁.setTop (mkF m 39 #[.val (.long x0), .second, .val (.int x1), .val (.int (x1 &&& (3 : Int32)))] [(.long ((2147483647 : Int64) - (x0 &&& (65535 : Int64))))]))
          exact own_endJ X0 hx Bd.notSynchronized Bd.returns (hb hby d2_39) ⟨(congrArg (fun z => some (Value.long z)) (show ((2147483647 : Int64) - (x0 &&& (65535 : Int64))) = own_f2 x0 x1 from by simp only [own_f2, if_neg hc1, if_neg hc2, if_pos hc3])), rfl, e0⟩ (by decide) (by decide)
        · refine own_Goes.step (fun t k => XS.icmpYes X0.here hx rfl (pc0 := 27) (pc' := 40) rfl (hb hby d2_27) rfl (XT.ii_ne_t hc3) (by decide) (by decide) k) ?_
          show own_Goes p e below s (own_F2 Z x0 x1 h0) 0 0 (s₁.setTop (mkF m 40 #[.val (.long x0), .second, .val (.int x1), .val (.int (x1 &&& (3 : Int32)))] []))
          refine own_Goes.step (fun t k => X0.ldc2J hx hown (mvT hZ (hw _ (List.mem_of_getElem? (i := 37) rfl))) rfl (hb hby d2_40) k) ?_
          show own_Goes p e below s (own_F2 Z x0 x1 h0) 0 0 (s₁.setTop (mkF m 43 #[.val (.long x0), .second, .val (.int x1), .val (.int (x1 &&& (3 : Int32)))] [(.long (2147483648 : Int64))]))
          refine own_Goes.step (fun t k => XT.lloadN X0.here hx rfl (hb hby d2_43) rfl k) ?_
          show own_Goes p e below s (own_F2 Z x0 x1 h0) 0 0 (s₁.setTop (mkF m 44 #[.val (.long x0), .second, .val (.int x1), .val (.int (x1 &&& (3 : Int32)))] [(.long x0), (.long (2147483648 : Int64))]))
          refine own_Goes.step (fun t k => X0.ldc2J hx hown (mvT hZ (hw _ (List.mem_of_getElem? (i := 35) rfl))) rfl (hb hby d2_44) k) ?_
          show own_Goes p e below s (own_F2 Z x0 x1 h0) 0 0 (s₁.setTop (mkF m 47 #[.val (.long x0), .second, .val (.int x1), .val (.int (x1 &&& (3 : Int32)))] [(.long (65535 : Int64)), (.long x0), (.long (2147483648 : Int64))]))
          refine own_Goes.step (fun t k => XT.land X0.here hx rfl (hb hby d2_47) rfl k) ?_
          show own_Goes p e below s (own_F2 Z x0 x1 h0) 0 0 (s₁.setTop (mkF m 48 #[.val (.long x0), .second, .val (.int x1), .val (.int (x1 &&& (3 : Int32)))] [(.long (x0 &&& (65535 : Int64))), (.long (2147483648 : Int64))]))
          refine own_Goes.step (fun t k => XT.ladd X0.here hx rfl (hb hby d2_48) rfl k) ?_
          show own_Goes p e below s (own_F2 Z x0 x1 h0) 0 0 (s₁.setTop (mkF m 49 #[.val (.long x0), .second, .val (.int x1), .val (.int (x1 &&& (3 : Int32)))] [(.long ((2147483648 : Int64) + (x0 &&& (65535 : Int64))))]))
          exact own_endJ X0 hx Bd.notSynchronized Bd.returns (hb hby d2_49) ⟨(congrArg (fun z => some (Value.long z)) (show ((2147483648 : Int64) + (x0 &&& (65535 : Int64))) = own_f2 x0 x1 from by simp only [own_f2, if_neg hc1, if_neg hc2, if_neg hc3])), rfl, e0⟩ (by decide) (by decide)
  obtain ⟨t2, o2, q1, q2, q3, q4⟩ := hgo
  exact ⟨t2, o2, castTop (ef_2 m x0 x1) q1, q2, q3, q4⟩
theorem d1_0 : decode method_2_code 0 = .ok (.iload_n 1, 1) := by decide +kernel
theorem d1_1 : decode method_2_code 1 = .ok (.iconst 4, 1) := by decide +kernel
theorem d1_2 : decode method_2_code 2 = .ok (.iand, 1) := by decide +kernel
theorem d1_3 : decode method_2_code 3 = .ok (.ifCond .eq 14, 3) := by decide +kernel
theorem d1_6 : decode method_2_code 6 = .ok (.iconst 1, 1) := by decide +kernel
theorem d1_7 : decode method_2_code 7 = .ok (.iload_n 0, 1) := by decide +kernel
theorem d1_8 : decode method_2_code 8 = .ok (.sipush 255, 3) := by decide +kernel
theorem d1_11 : decode method_2_code 11 = .ok (.iand, 1) := by decide +kernel
theorem d1_12 : decode method_2_code 12 = .ok (.iadd, 1) := by decide +kernel
theorem d1_13 : decode method_2_code 13 = .ok (.istore_n 2, 1) := by decide +kernel
theorem d1_14 : decode method_2_code 14 = .ok (.goto 14, 3) := by decide +kernel
theorem d1_17 : decode method_2_code 17 = .ok (.iload_n 0, 1) := by decide +kernel
theorem d1_18 : decode method_2_code 18 = .ok (.ldc 7, 2) := by decide +kernel
theorem d1_20 : decode method_2_code 20 = .ok (.iand, 1) := by decide +kernel
theorem d1_21 : decode method_2_code 21 = .ok (.istore_n 2, 1) := by decide +kernel
theorem d1_22 : decode method_2_code 22 = .ok (.iload_n 2, 1) := by decide +kernel
theorem d1_23 : decode method_2_code 23 = .ok (.ifCond .ne 5, 3) := by decide +kernel
theorem d1_26 : decode method_2_code 26 = .ok (.iconst 1, 1) := by decide +kernel
theorem d1_27 : decode method_2_code 27 = .ok (.istore_n 2, 1) := by decide +kernel
theorem d1_28 : decode method_2_code 28 = .ok (.iload_n 2, 1) := by decide +kernel
theorem d1_29 : decode method_2_code 29 = .ok (.ireturn, 1) := by decide +kernel
theorem pn_1 : plainName "com/example/keystead/keystead/DivisorQuotientPinLaw" = true := by first | (simp [plainName, overriddenIn]; done) | decide +kernel
theorem pd_1 : parseMethodDescriptor "(II)I" = some ⟨[.int, .int], (some .int)⟩ := by decide +kernel
theorem ef_1 (m : MethodId) (x0 : Int32) (x1 : Int32) : entryFrame m #[(.int x0), (.int x1)] 3 = mkF m 0 #[.val (.int x0), .val (.int x1), .unset] [] := by first | (simp [entryFrame, mkF, argsToLocals, Value.category]; done) | rfl
def own_f1_1 (x0 : Int32) (x1 : Int32) : Int32 := (if (x1 &&& (4 : Int32)) = (0 : Int32) then (if (x0 &&& (2147483647 : Int32)) = (0 : Int32) then (1 : Int32) else (x0 &&& (2147483647 : Int32))) else ((1 : Int32) + (x0 &&& (255 : Int32))))
def own_f1 (x0 : Int32) (x1 : Int32) : Int32 := (own_f1_1 x0 x1)
def own_F1 (Z : State) (x0 : Int32) (x1 : Int32)  (h0 : Heap) (v : Option Value) (h : Heap) (L : List Loc) : Prop := v = some (.int (own_f1 x0 x1)) ∧ L = [] ∧ h = h0
set_option maxRecDepth 65536 in
set_option maxHeartbeats 40000000 in
theorem own_m1 (l : Launch) (Z : State) (a0 : Array Value) (hw : ∀ d ∈ tables_1, d.before a0 Z = true) (ws : List Jvm.Cond) (x0 : Int32) (x1 : Int32)  (h0 : Heap)   :
    MetFree l (⟨"com/example/keystead/keystead/DivisorQuotientPinLaw", "pickDivisor", "(II)I"⟩ : MethodName) (head1 (Jvm.Cond.code (⟨"com/example/keystead/keystead/DivisorQuotientPinLaw", "pickDivisor", "(II)I"⟩ : MethodName) method_2_code 3 (some .int) :: ws) ({ frames := 0, cells := 0, slots := 0, locals := 0 } : Room)) (fun a U => a = #[(.int x0), (.int x1)] ∧ Z.Warmed39 U.vm ∧ U.heap = h0) (fun _ _ _ _ _ => True) (fun _ U o U' => ∃ v L, o = .returned v ∧ own_F1 Z x0 x1 h0 v U'.heap L ∧ FrameEnd U o U' L ({ frames := 0, cells := 0, slots := 0, locals := 0 } : Room).cells ({ frames := 0, cells := 0, slots := 0, locals := 0 } : Room).slots) := by
  refine MetFree.of_bodySF (plainFor_of_name pn_1) hisR ?_
  intro p e s m args below meth c s₁ Bd hml0 hP hK
  obtain ⟨rfl, hZ, hh⟩ := hP
  have hx := Bd.exec
  have hby := Bd.bytes
  have hml : c.maxLocals = 3 := hml0
  have hown : s.vm.findClass "com/example/keystead/keystead/DivisorQuotientPinLaw" = some m.cls := findClass_of_methodNamed Bd.named
  have hnm := (name_of_methodNamed Bd.named Bd.method).1
  have X0 : Stand p l e ({ frames := 0, cells := 0, slots := 0, locals := 0 } : Room) s m #[(.int x0), (.int x1)] below meth c s₁ [] 0 0 := Stand.of_body Bd
  have e0 : s₁.heap = h0 := by rw [← hh, Bd.state]; rfl
  have hgo : own_Goes p e below s (own_F1 Z x0 x1 h0) 0 0 (s₁.setTop (mkF m 0 #[.val (.int x0), .val (.int x1), .unset] [])) := by
    refine own_Goes.step (fun t k => XS.iloadN X0.here hx rfl (hb hby d1_0) rfl k) ?_
    show own_Goes p e below s (own_F1 Z x0 x1 h0) 0 0 (s₁.setTop (mkF m 1 #[.val (.int x0), .val (.int x1), .unset] [(.int x1)]))
    refine own_Goes.step (fun t k => XT.iconstV X0.here hx rfl (4 : Int32) (hb hby d1_1) (by decide) k) ?_
    show own_Goes p e below s (own_F1 Z x0 x1 h0) 0 0 (s₁.setTop (mkF m 2 #[.val (.int x0), .val (.int x1), .unset] [(.int (4 : Int32)), (.int x1)]))
    refine own_Goes.step (fun t k => XS.iand X0.here hx rfl (hb hby d1_2) rfl k) ?_
    show own_Goes p e below s (own_F1 Z x0 x1 h0) 0 0 (s₁.setTop (mkF m 3 #[.val (.int x0), .val (.int x1), .unset] [(.int (x1 &&& (4 : Int32)))]))
    have J3 : own_Goes p e below s (own_F1 Z x0 x1 h0) 0 0 (s₁.setTop (mkF m 28 #[.val (.int x0), .val (.int x1), .val (.int (own_f1_1 x0 x1))] [])) := by
      refine own_Goes.step (fun t k => XS.iloadN X0.here hx rfl (hb hby d1_28) rfl k) ?_
      show own_Goes p e below s (own_F1 Z x0 x1 h0) 0 0 (s₁.setTop (mkF m 29 #[.val (.int x0), .val (.int x1), .val (.int (own_f1_1 x0 x1))] [(.int (own_f1_1 x0 x1))]))
      exact own_endI X0 hx Bd.notSynchronized Bd.returns (hb hby d1_29) ⟨(congrArg (fun z => some (Value.int z)) (show (own_f1_1 x0 x1) = own_f1 x0 x1 from by simp only [own_f1])), rfl, e0⟩ (by decide) (by decide)
    by_cases hc1 : (x1 &&& (4 : Int32)) = (0 : Int32)
    · refine own_Goes.step (fun t k => XS.ifYes X0.here hx rfl (pc0 := 3) (pc' := 17) rfl (hb hby d1_3) rfl (XT.i0_eq_t hc1) (by decide) (by decide) k) ?_
      show own_Goes p e below s (own_F1 Z x0 x1 h0) 0 0 (s₁.setTop (mkF m 17 #[.val (.int x0), .val (.int x1), .unset] []))
      refine own_Goes.step (fun t k => XS.iloadN X0.here hx rfl (hb hby d1_17) rfl k) ?_
      show own_Goes p e below s (own_F1 Z x0 x1 h0) 0 0 (s₁.setTop (mkF m 18 #[.val (.int x0), .val (.int x1), .unset] [(.int x0)]))
      refine own_Goes.step (fun t k => X0.ldcI hx hown (mvT hZ (hw _ (List.mem_of_getElem? (i := 4) rfl))) rfl (hb hby d1_18) k) ?_
      show own_Goes p e below s (own_F1 Z x0 x1 h0) 0 0 (s₁.setTop (mkF m 20 #[.val (.int x0), .val (.int x1), .unset] [(.int (2147483647 : Int32)), (.int x0)]))
      refine own_Goes.step (fun t k => XS.iand X0.here hx rfl (hb hby d1_20) rfl k) ?_
      show own_Goes p e below s (own_F1 Z x0 x1 h0) 0 0 (s₁.setTop (mkF m 21 #[.val (.int x0), .val (.int x1), .unset] [(.int (x0 &&& (2147483647 : Int32)))]))
      refine own_Goes.step (fun t k => XS.istoreN X0.here hx rfl (hb hby d1_21) rfl (l' := #[.val (.int x0), .val (.int x1), .val (.int (x0 &&& (2147483647 : Int32)))]) rfl k) ?_
      show own_Goes p e below s (own_F1 Z x0 x1 h0) 0 0 (s₁.setTop (mkF m 22 #[.val (.int x0), .val (.int x1), .val (.int (x0 &&& (2147483647 : Int32)))] []))
      refine own_Goes.step (fun t k => XS.iloadN X0.here hx rfl (hb hby d1_22) rfl k) ?_
      show own_Goes p e below s (own_F1 Z x0 x1 h0) 0 0 (s₁.setTop (mkF m 23 #[.val (.int x0), .val (.int x1), .val (.int (x0 &&& (2147483647 : Int32)))] [(.int (x0 &&& (2147483647 : Int32)))]))
      by_cases hc2 : (x0 &&& (2147483647 : Int32)) = (0 : Int32)
      · refine own_Goes.step (fun t k => XS.ifNo X0.here hx rfl (hb hby d1_23) rfl (XT.i0_ne_f hc2) k) ?_
        show own_Goes p e below s (own_F1 Z x0 x1 h0) 0 0 (s₁.setTop (mkF m 26 #[.val (.int x0), .val (.int x1), .val (.int (x0 &&& (2147483647 : Int32)))] []))
        refine own_Goes.step (fun t k => XT.iconstV X0.here hx rfl (1 : Int32) (hb hby d1_26) (by decide) k) ?_
        show own_Goes p e below s (own_F1 Z x0 x1 h0) 0 0 (s₁.setTop (mkF m 27 #[.val (.int x0), .val (.int x1), .val (.int (x0 &&& (2147483647 : Int32)))] [(.int (1 : Int32))]))
        refine own_Goes.step (fun t k => XS.istoreN X0.here hx rfl (hb hby d1_27) rfl (l' := #[.val (.int x0), .val (.int x1), .val (.int (1 : Int32))]) rfl k) ?_
        show own_Goes p e below s (own_F1 Z x0 x1 h0) 0 0 (s₁.setTop (mkF m 28 #[.val (.int x0), .val (.int x1), .val (.int (1 : Int32))] []))
        rw [show (own_f1_1 x0 x1) = (1 : Int32) from by simp only [own_f1_1, if_pos hc1, if_pos hc2]] at J3
        exact J3
      · refine own_Goes.step (fun t k => XS.ifYes X0.here hx rfl (pc0 := 23) (pc' := 28) rfl (hb hby d1_23) rfl (XT.i0_ne_t hc2) (by decide) (by decide) k) ?_
        show own_Goes p e below s (own_F1 Z x0 x1 h0) 0 0 (s₁.setTop (mkF m 28 #[.val (.int x0), .val (.int x1), .val (.int (x0 &&& (2147483647 : Int32)))] []))
        rw [show (own_f1_1 x0 x1) = (x0 &&& (2147483647 : Int32)) from by simp only [own_f1_1, if_pos hc1, if_neg hc2]] at J3
        exact J3
    · refine own_Goes.step (fun t k => XS.ifNo X0.here hx rfl (hb hby d1_3) rfl (XT.i0_eq_f hc1) k) ?_
      show own_Goes p e below s (own_F1 Z x0 x1 h0) 0 0 (s₁.setTop (mkF m 6 #[.val (.int x0), .val (.int x1), .unset] []))
      refine own_Goes.step (fun t k => XT.iconstV X0.here hx rfl (1 : Int32) (hb hby d1_6) (by decide) k) ?_
      show own_Goes p e below s (own_F1 Z x0 x1 h0) 0 0 (s₁.setTop (mkF m 7 #[.val (.int x0), .val (.int x1), .unset] [(.int (1 : Int32))]))
      refine own_Goes.step (fun t k => XS.iloadN X0.here hx rfl (hb hby d1_7) rfl k) ?_
      show own_Goes p e below s (own_F1 Z x0 x1 h0) 0 0 (s₁.setTop (mkF m 8 #[.val (.int x0), .val (.int x1), .unset] [(.int x0), (.int (1 : Int32))]))
      refine own_Goes.step (fun t k => XT.sipushV X0.here hx rfl (255 : Int32) (hb hby d1_8) (by decide) k) ?_
      show own_Goes p e below s (own_F1 Z x0 x1 h0) 0 0 (s₁.setTop (mkF m 11 #[.val (.int x0), .val (.int x1), .unset] [(.int (255 : Int32)), (.int x0), (.int (1 : Int32))]))
      refine own_Goes.step (fun t k => XS.iand X0.here hx rfl (hb hby d1_11) rfl k) ?_
      show own_Goes p e below s (own_F1 Z x0 x1 h0) 0 0 (s₁.setTop (mkF m 12 #[.val (.int x0), .val (.int x1), .unset] [(.int (x0 &&& (255 : Int32))), (.int (1 : Int32))]))
      refine own_Goes.step (fun t k => XS.iadd X0.here hx rfl (hb hby d1_12) rfl k) ?_
      show own_Goes p e below s (own_F1 Z x0 x1 h0) 0 0 (s₁.setTop (mkF m 13 #[.val (.int x0), .val (.int x1), .unset] [(.int ((1 : Int32) + (x0 &&& (255 : Int32))))]))
      refine own_Goes.step (fun t k => XS.istoreN X0.here hx rfl (hb hby d1_13) rfl (l' := #[.val (.int x0), .val (.int x1), .val (.int ((1 : Int32) + (x0 &&& (255 : Int32))))]) rfl k) ?_
      show own_Goes p e below s (own_F1 Z x0 x1 h0) 0 0 (s₁.setTop (mkF m 14 #[.val (.int x0), .val (.int x1), .val (.int ((1 : Int32) + (x0 &&& (255 : Int32))))] []))
      refine own_Goes.step (fun t k => XS.goto X0.here hx rfl (pc0 := 14) (pc' := 28) rfl (hb hby d1_14) (by decide) (by decide) k) ?_
      show own_Goes p e below s (own_F1 Z x0 x1 h0) 0 0 (s₁.setTop (mkF m 28 #[.val (.int x0), .val (.int x1), .val (.int ((1 : Int32) + (x0 &&& (255 : Int32))))] []))
      rw [show (own_f1_1 x0 x1) = ((1 : Int32) + (x0 &&& (255 : Int32))) from by simp only [own_f1_1, if_neg hc1]] at J3
      exact J3
  obtain ⟨t2, o2, q1, q2, q3, q4⟩ := hgo
  exact ⟨t2, o2, castTop (ef_1 m x0 x1) q1, q2, q3, q4⟩
theorem pn_0 : plainName "com/example/keystead/keystead/DivisorQuotientPinLaw" = true := by first | (simp [plainName, overriddenIn]; done) | decide +kernel
theorem pd_0 : parseMethodDescriptor "(IJI)Z" = some ⟨[.int, .long, .int], (some .boolean)⟩ := by decide +kernel
theorem ef_0 (m : MethodId) (x0 : Int32) (x1 : Int64) (x2 : Int32) : entryFrame m #[(.int x0), (.long x1), (.int x2)] maxLocals = mkF m 0 #[.val (.int x0), .val (.long x1), .second, .val (.int x2), .unset, .unset, .unset, .unset, .unset, .unset, .unset, .unset] [] := by first | (simp [entryFrame, mkF, argsToLocals, Value.category, maxLocals]; done) | rfl
def own_f0_1 (x0 : Int32) (x1 : Int64) (x2 : Int32) : Int64 := (own_f6 (own_f2 x1 x2) (own_f3_multiplier (own_f1 x0 x2)) (own_f3_shift (own_f1 x0 x2)) (own_f3_divisor (own_f1 x0 x2)))
def own_f0 (x0 : Int32) (x1 : Int64) (x2 : Int32) : Int32 := (if (own_f0_1 x0 x1 x2) = ((own_f2 x1 x2) / ((own_f1 x0 x2).toInt64)) then (1 : Int32) else (0 : Int32))
theorem own_d (x0 x2 : Int32) : 1 ≤ (own_f1 x0 x2).toInt := by
  have k1 : (1 : Int32).toInt = 1 := rfl
  have k0 : (0 : Int32).toInt = 0 := rfl
  have a : (x0 &&& (2147483647 : Int32)).toInt = x0.toInt % 2 ^ 31 := Jvm.Kit.i32_mask x0 _ (k := 31) (by decide) (by decide)
  have b : (x0 &&& (255 : Int32)).toInt = x0.toInt % 2 ^ 8 := Jvm.Kit.i32_mask x0 _ (k := 8) (by decide) (by decide)
  unfold own_f1 own_f1_1
  split
  · split
    · decide
    · next h => rw [own_eq32, k0] at h; omega
  · rw [Jvm.Kit.i32_add (by rw [k1]; omega) (by rw [k1]; omega), k1]; omega
theorem own_dnz (x0 : Int32) (x1 : Int64) (x2 : Int32) : ¬ (own_f1 x0 x2).toInt64 = (0 : Int64) := by
  have h := own_d x0 x2
  have k0 : (0 : Int64).toInt = 0 := rfl
  rw [own_eq64, Jvm.Kit.i64_of_i32, k0]; omega
def own_F0 (Z : State) (x0 : Int32) (x1 : Int64) (x2 : Int32)  (n0 : Nat) (h0 : Heap) (v : Option Value) (h : Heap) (L : List Loc) : Prop := v = some (.int (own_f0 x0 x1 x2)) ∧ Fr n0 L
set_option maxRecDepth 65536 in
set_option maxHeartbeats 40000000 in
theorem own_m0 (l : Launch) (Z : State) (a0 : Array Value) (hw : ∀ d ∈ tables_1, d.before a0 Z = true) (ws : List Jvm.Cond) (x0 : Int32) (x1 : Int64) (x2 : Int32)  (n0 : Nat) (h0 : Heap) (Z0 : n0 ≤ h0.size)   :
    MetFree l x (head1 (Jvm.Cond.code x code maxLocals ret :: ws) room_1) (fun a U => a = #[(.int x0), (.long x1), (.int x2)] ∧ Z.Warmed39 U.vm ∧ U.heap = h0) (fun _ _ _ _ _ => True) (fun _ U o U' => ∃ v L, o = .returned v ∧ own_F0 Z x0 x1 x2 n0 h0 v U'.heap L ∧ FrameEnd U o U' L room_1.cells room_1.slots) := by
  refine MetFree.of_bodySF (plainFor_of_name pn_0) hisR ?_
  intro p e s m args below meth c s₁ Bd hml0 hP hK
  obtain ⟨rfl, hZ, hh⟩ := hP
  have hx := Bd.exec
  have hby := Bd.bytes
  have hml : c.maxLocals = 12 := hml0
  have hown : s.vm.findClass "com/example/keystead/keystead/DivisorQuotientPinLaw" = some m.cls := findClass_of_methodNamed Bd.named
  have hnm := (name_of_methodNamed Bd.named Bd.method).1
  have X0 : Stand p l e room_1 s m #[(.int x0), (.long x1), (.int x2)] below meth c s₁ [] 0 0 := Stand.of_body Bd
  have e0 : s₁.heap = h0 := by rw [← hh, Bd.state]; rfl
  have N0 := Fr.nil n0
  have K0 : Keep h0 h0 [] := Keep.refl h0 []
  have hgo : own_Goes p e below s (own_F0 Z x0 x1 x2 n0 h0) room_1.cells room_1.slots (s₁.setTop (mkF m 0 #[.val (.int x0), .val (.long x1), .second, .val (.int x2), .unset, .unset, .unset, .unset, .unset, .unset, .unset, .unset] [])) := by
    refine own_Goes.step (fun t k => XS.iloadN X0.here hx rfl (hb hby at_0) rfl k) ?_
    show own_Goes p e below s (own_F0 Z x0 x1 x2 n0 h0) room_1.cells room_1.slots (s₁.setTop (mkF m 1 #[.val (.int x0), .val (.long x1), .second, .val (.int x2), .unset, .unset, .unset, .unset, .unset, .unset, .unset, .unset] [(.int x0)]))
    refine own_Goes.step (fun t k => XS.iloadN X0.here hx rfl (hb hby at_1) rfl k) ?_
    show own_Goes p e below s (own_F0 Z x0 x1 x2 n0 h0) room_1.cells room_1.slots (s₁.setTop (mkF m 2 #[.val (.int x0), .val (.long x1), .second, .val (.int x2), .unset, .unset, .unset, .unset, .unset, .unset, .unset, .unset] [(.int x2), (.int x0)]))
    obtain ⟨w1, T1, L1, q1, Y1, st1⟩ := own_stat X0 hx hZ e0 hown (hw _ (List.mem_of_getElem? (i := 0) rfl)) (hw _ (List.mem_of_getElem? (i := 1) rfl)) (hw _ (List.mem_of_getElem? (i := 2) rfl)) (hw _ (List.mem_of_getElem? (i := 3) rfl)) (by decide) (own_m1 l Z a0 hw [] x0 x2 h0 ) (by decide) (W := 0) (by decide) (by decide) (by decide) (g := (mkF m 2 #[.val (.int x0), .val (.long x1), .second, .val (.int x2), .unset, .unset, .unset, .unset, .unset, .unset, .unset, .unset] [(.int x2), (.int x0)])) rfl (by rw [hml]; rfl) (argsL := [(.int x0), (.int x2)]) (rest := []) (lenOf pd_1 rfl) rfl (by show 2 * 0 + _ ≤ _; exact Nat.le_of_eq rfl) (hb hby at_2)
    obtain ⟨e1, X1⟩ := own_clean q1 Y1 rfl rfl
    obtain ⟨rfl, -, -⟩ := q1
    refine own_Goes.step st1 ?_
    show own_Goes p e below s (own_F0 Z x0 x1 x2 n0 h0) room_1.cells room_1.slots (T1.setTop (mkF m 5 #[.val (.int x0), .val (.long x1), .second, .val (.int x2), .unset, .unset, .unset, .unset, .unset, .unset, .unset, .unset] [(.int (own_f1 x0 x2))]))
    refine own_Goes.step (fun t k => XS.istore X1.here hx rfl (hb hby at_5) rfl (l' := #[.val (.int x0), .val (.long x1), .second, .val (.int x2), .val (.int (own_f1 x0 x2)), .unset, .unset, .unset, .unset, .unset, .unset, .unset]) rfl k) ?_
    show own_Goes p e below s (own_F0 Z x0 x1 x2 n0 h0) room_1.cells room_1.slots (T1.setTop (mkF m 7 #[.val (.int x0), .val (.long x1), .second, .val (.int x2), .val (.int (own_f1 x0 x2)), .unset, .unset, .unset, .unset, .unset, .unset, .unset] []))
    refine own_Goes.step (fun t k => XT.lloadN X1.here hx rfl (hb hby at_7) rfl k) ?_
    show own_Goes p e below s (own_F0 Z x0 x1 x2 n0 h0) room_1.cells room_1.slots (T1.setTop (mkF m 8 #[.val (.int x0), .val (.long x1), .second, .val (.int x2), .val (.int (own_f1 x0 x2)), .unset, .unset, .unset, .unset, .unset, .unset, .unset] [(.long x1)]))
    refine own_Goes.step (fun t k => XS.iloadN X1.here hx rfl (hb hby at_8) rfl k) ?_
    show own_Goes p e below s (own_F0 Z x0 x1 x2 n0 h0) room_1.cells room_1.slots (T1.setTop (mkF m 9 #[.val (.int x0), .val (.long x1), .second, .val (.int x2), .val (.int (own_f1 x0 x2)), .unset, .unset, .unset, .unset, .unset, .unset, .unset] [(.int x2), (.long x1)]))
    obtain ⟨w2, T2, L2, q2, Y2, st2⟩ := own_stat X1 hx hZ e1 hown (hw _ (List.mem_of_getElem? (i := 5) rfl)) (hw _ (List.mem_of_getElem? (i := 6) rfl)) (hw _ (List.mem_of_getElem? (i := 2) rfl)) (hw _ (List.mem_of_getElem? (i := 7) rfl)) (by decide) (own_m2 l Z a0 hw [] x1 x2 h0 ) (by decide) (W := 0) (by decide) (by decide) (by decide) (g := (mkF m 9 #[.val (.int x0), .val (.long x1), .second, .val (.int x2), .val (.int (own_f1 x0 x2)), .unset, .unset, .unset, .unset, .unset, .unset, .unset] [(.int x2), (.long x1)])) rfl (by rw [hml]; rfl) (argsL := [(.long x1), (.int x2)]) (rest := []) (lenOf pd_2 rfl) rfl (by show 2 * 0 + _ ≤ _; exact Nat.le_of_eq rfl) (hb hby at_9)
    obtain ⟨e2, X2⟩ := own_clean q2 Y2 rfl rfl
    obtain ⟨rfl, -, -⟩ := q2
    refine own_Goes.step st2 ?_
    show own_Goes p e below s (own_F0 Z x0 x1 x2 n0 h0) room_1.cells room_1.slots (T2.setTop (mkF m 12 #[.val (.int x0), .val (.long x1), .second, .val (.int x2), .val (.int (own_f1 x0 x2)), .unset, .unset, .unset, .unset, .unset, .unset, .unset] [(.long (own_f2 x1 x2))]))
    refine own_Goes.step (fun t k => XT.lstore X2.here hx rfl (hb hby at_12) rfl (l' := #[.val (.int x0), .val (.long x1), .second, .val (.int x2), .val (.int (own_f1 x0 x2)), .val (.long (own_f2 x1 x2)), .second, .unset, .unset, .unset, .unset, .unset]) rfl k) ?_
    show own_Goes p e below s (own_F0 Z x0 x1 x2 n0 h0) room_1.cells room_1.slots (T2.setTop (mkF m 14 #[.val (.int x0), .val (.long x1), .second, .val (.int x2), .val (.int (own_f1 x0 x2)), .val (.long (own_f2 x1 x2)), .second, .unset, .unset, .unset, .unset, .unset] []))
    obtain ⟨T3, h3, X3, e3, E3, A3, D3, -, st3⟩ := newO X2 hx hZ hown (hw _ (List.mem_of_getElem? (i := 9) rfl)) (hw _ (List.mem_of_getElem? (i := 10) rfl)) (hw _ (List.mem_of_getElem? (i := 11) rfl)) e2 (g := (mkF m 14 #[.val (.int x0), .val (.long x1), .second, .val (.int x2), .val (.int (own_f1 x0 x2)), .val (.long (own_f2 x1 x2)), .second, .unset, .unset, .unset, .unset, .unset] [])) rfl (hb hby at_14) (by decide) (by decide)
    obtain ⟨a3, g3⟩ : ∃ z, z = h0.size := ⟨_, rfl⟩
    rw [← g3] at A3 D3 st3
    have f4 : Fld Z h3 a3 "com/example/keystead/keystead/Divisor" "divisor" "I" (.int (0 : Int32)) := D3 (Or.inr (hw _ (List.mem_of_getElem? (i := 19) rfl))) (ty := .int) (by decide)
    have f5 : Fld Z h3 a3 "com/example/keystead/keystead/Divisor" "shift" "I" (.int (0 : Int32)) := D3 (Or.inr (hw _ (List.mem_of_getElem? (i := 25) rfl))) (ty := .int) (by decide)
    have f6 : Fld Z h3 a3 "com/example/keystead/keystead/Divisor" "multiplier" "J" (.long (0 : Int64)) := D3 (Or.inr (hw _ (List.mem_of_getElem? (i := 27) rfl))) (ty := .long) (by decide)
    have ga3 : n0 ≤ a3 := Nat.le_trans Z0 (Nat.le_of_eq g3.symm)
    have Z3 : n0 ≤ h3.size := Nat.le_trans Z0 E3.1
    have K3 := K0.ext E3
    have Kh3 : h0.size ≤ a3 := Nat.le_trans K0.1 (Nat.le_of_eq g3.symm)
    refine own_Goes.step st3 ?_
    show own_Goes p e below s (own_F0 Z x0 x1 x2 n0 h0) room_1.cells room_1.slots (T3.setTop (mkF m 17 #[.val (.int x0), .val (.long x1), .second, .val (.int x2), .val (.int (own_f1 x0 x2)), .val (.long (own_f2 x1 x2)), .second, .unset, .unset, .unset, .unset, .unset] [(.ref a3)]))
    refine own_Goes.step (fun t k => XS.dup X3.here hx rfl (hb hby at_17) rfl rfl k) ?_
    show own_Goes p e below s (own_F0 Z x0 x1 x2 n0 h0) room_1.cells room_1.slots (T3.setTop (mkF m 18 #[.val (.int x0), .val (.long x1), .second, .val (.int x2), .val (.int (own_f1 x0 x2)), .val (.long (own_f2 x1 x2)), .second, .unset, .unset, .unset, .unset, .unset] [(.ref a3), (.ref a3)]))
    refine own_Goes.step (fun t k => XS.iload X3.here hx rfl (hb hby at_18) rfl k) ?_
    show own_Goes p e below s (own_F0 Z x0 x1 x2 n0 h0) room_1.cells room_1.slots (T3.setTop (mkF m 20 #[.val (.int x0), .val (.long x1), .second, .val (.int x2), .val (.int (own_f1 x0 x2)), .val (.long (own_f2 x1 x2)), .second, .unset, .unset, .unset, .unset, .unset] [(.int (own_f1 x0 x2)), (.ref a3), (.ref a3)]))
    obtain ⟨w8, T8, L8, q8, Y8, st8⟩ := own_spec X3 hx hZ e3 rfl hown (hw _ (List.mem_of_getElem? (i := 12) rfl)) (hw _ (List.mem_of_getElem? (i := 13) rfl)) (hw _ (List.mem_of_getElem? (i := 11) rfl)) (hw _ (List.mem_of_getElem? (i := 14) rfl)) (by decide) (own_m3 l Z a0 hw [] a3 (own_f1 x0 x2) n0 h3 A3 ga3 f4 f5 f6 (own_dnz x0 x1 x2) ) (by decide) (W := 1) (by decide) (by decide) (by decide) (g := (mkF m 20 #[.val (.int x0), .val (.long x1), .second, .val (.int x2), .val (.int (own_f1 x0 x2)), .val (.long (own_f2 x1 x2)), .second, .unset, .unset, .unset, .unset, .unset] [(.int (own_f1 x0 x2)), (.ref a3), (.ref a3)])) rfl (by rw [hml]; rfl) (a := a3) (argsL := [(.int (own_f1 x0 x2))]) (rest := [(.ref a3)]) (lenOf pd_3 rfl) rfl (by show 2 * 0 + _ ≤ _; exact Nat.le_of_eq rfl) (hb hby at_20)
    obtain ⟨rfl, N8, K8, E8, c8_0, c8_1, c8_2⟩ := q8
    have N13 := Fr.app N0 N8
    have Z14 : n0 ≤ T8.heap.size := Nat.le_trans Z3 K8.1
    have K15 := K3.trans K8 (own_kt (Or.inr Kh3))
    refine own_Goes.step st8 ?_
    show own_Goes p e below s (own_F0 Z x0 x1 x2 n0 h0) room_1.cells room_1.slots (T8.setTop (mkF m 23 #[.val (.int x0), .val (.long x1), .second, .val (.int x2), .val (.int (own_f1 x0 x2)), .val (.long (own_f2 x1 x2)), .second, .unset, .unset, .unset, .unset, .unset] [(.ref a3)]))
    refine own_Goes.step (fun t k => XS.astore Y8.here hx rfl (hb hby at_23) rfl rfl (l' := #[.val (.int x0), .val (.long x1), .second, .val (.int x2), .val (.int (own_f1 x0 x2)), .val (.long (own_f2 x1 x2)), .second, .val (.ref a3), .unset, .unset, .unset, .unset]) rfl k) ?_
    show own_Goes p e below s (own_F0 Z x0 x1 x2 n0 h0) room_1.cells room_1.slots (T8.setTop (mkF m 25 #[.val (.int x0), .val (.long x1), .second, .val (.int x2), .val (.int (own_f1 x0 x2)), .val (.long (own_f2 x1 x2)), .second, .val (.ref a3), .unset, .unset, .unset, .unset] []))
    refine own_Goes.step (fun t k => XS.aload Y8.here hx rfl (hb hby at_25) rfl rfl k) ?_
    show own_Goes p e below s (own_F0 Z x0 x1 x2 n0 h0) room_1.cells room_1.slots (T8.setTop (mkF m 27 #[.val (.int x0), .val (.long x1), .second, .val (.int x2), .val (.int (own_f1 x0 x2)), .val (.long (own_f2 x1 x2)), .second, .val (.ref a3), .unset, .unset, .unset, .unset] [(.ref a3)]))
    refine own_Goes.step (fun t k => XT.lload Y8.here hx rfl (hb hby at_27) rfl k) ?_
    show own_Goes p e below s (own_F0 Z x0 x1 x2 n0 h0) room_1.cells room_1.slots (T8.setTop (mkF m 29 #[.val (.int x0), .val (.long x1), .second, .val (.int x2), .val (.int (own_f1 x0 x2)), .val (.long (own_f2 x1 x2)), .second, .val (.ref a3), .unset, .unset, .unset, .unset] [(.long (own_f2 x1 x2)), (.ref a3)]))
    obtain ⟨w16, T16, L16, q16, Y16, st16⟩ := own_virt Y8 hx hZ rfl E8 hown (hw _ (List.mem_of_getElem? (i := 28) rfl)) (hw _ (List.mem_of_getElem? (i := 29) rfl)) (hw _ (List.mem_of_getElem? (i := 31) rfl)) (hw _ (List.mem_of_getElem? (i := 30) rfl)) (hw _ (List.mem_of_getElem? (i := 11) rfl)) (hw _ (List.mem_of_getElem? (i := 32) rfl)) (by decide) (own_m6 l Z a0 hw [] a3 (own_f2 x1 x2) (own_f3_multiplier (own_f1 x0 x2)) (own_f3_shift (own_f1 x0 x2)) (own_f3_divisor (own_f1 x0 x2)) T8.heap c8_2 c8_1 c8_0 (own_dnz x0 x1 x2)) (by decide) (W := 0) (by decide) (by decide) (by decide) (g := (mkF m 29 #[.val (.int x0), .val (.long x1), .second, .val (.int x2), .val (.int (own_f1 x0 x2)), .val (.long (own_f2 x1 x2)), .second, .val (.ref a3), .unset, .unset, .unset, .unset] [(.long (own_f2 x1 x2)), (.ref a3)])) rfl (by rw [hml]; rfl) (argsL := [(.long (own_f2 x1 x2))]) (rest := []) (lenOf pd_6 rfl) rfl (by show 2 * 0 + _ ≤ _; exact Nat.le_of_eq rfl) (hb hby at_29)
    obtain ⟨e16, X16⟩ := own_clean q16 Y16 rfl rfl
    obtain ⟨rfl, -, -⟩ := q16
    refine own_Goes.step st16 ?_
    show own_Goes p e below s (own_F0 Z x0 x1 x2 n0 h0) room_1.cells room_1.slots (T16.setTop (mkF m 32 #[.val (.int x0), .val (.long x1), .second, .val (.int x2), .val (.int (own_f1 x0 x2)), .val (.long (own_f2 x1 x2)), .second, .val (.ref a3), .unset, .unset, .unset, .unset] [(.long (own_f6 (own_f2 x1 x2) (own_f3_multiplier (own_f1 x0 x2)) (own_f3_shift (own_f1 x0 x2)) (own_f3_divisor (own_f1 x0 x2))))]))
    refine own_Goes.step (fun t k => XT.lstore X16.here hx rfl (hb hby at_32) rfl (l' := #[.val (.int x0), .val (.long x1), .second, .val (.int x2), .val (.int (own_f1 x0 x2)), .val (.long (own_f2 x1 x2)), .second, .val (.ref a3), .val (.long (own_f0_1 x0 x1 x2)), .second, .unset, .unset]) rfl k) ?_
    show own_Goes p e below s (own_F0 Z x0 x1 x2 n0 h0) room_1.cells room_1.slots (T16.setTop (mkF m 34 #[.val (.int x0), .val (.long x1), .second, .val (.int x2), .val (.int (own_f1 x0 x2)), .val (.long (own_f2 x1 x2)), .second, .val (.ref a3), .val (.long (own_f0_1 x0 x1 x2)), .second, .unset, .unset] []))
    refine own_Goes.step (fun t k => XT.lload X16.here hx rfl (hb hby at_34) rfl k) ?_
    show own_Goes p e below s (own_F0 Z x0 x1 x2 n0 h0) room_1.cells room_1.slots (T16.setTop (mkF m 36 #[.val (.int x0), .val (.long x1), .second, .val (.int x2), .val (.int (own_f1 x0 x2)), .val (.long (own_f2 x1 x2)), .second, .val (.ref a3), .val (.long (own_f0_1 x0 x1 x2)), .second, .unset, .unset] [(.long (own_f2 x1 x2))]))
    refine own_Goes.step (fun t k => XS.iload X16.here hx rfl (hb hby at_36) rfl k) ?_
    show own_Goes p e below s (own_F0 Z x0 x1 x2 n0 h0) room_1.cells room_1.slots (T16.setTop (mkF m 38 #[.val (.int x0), .val (.long x1), .second, .val (.int x2), .val (.int (own_f1 x0 x2)), .val (.long (own_f2 x1 x2)), .second, .val (.ref a3), .val (.long (own_f0_1 x0 x1 x2)), .second, .unset, .unset] [(.int (own_f1 x0 x2)), (.long (own_f2 x1 x2))]))
    refine own_Goes.step (fun t k => XT.i2l X16.here hx rfl (hb hby at_38) rfl k) ?_
    show own_Goes p e below s (own_F0 Z x0 x1 x2 n0 h0) room_1.cells room_1.slots (T16.setTop (mkF m 39 #[.val (.int x0), .val (.long x1), .second, .val (.int x2), .val (.int (own_f1 x0 x2)), .val (.long (own_f2 x1 x2)), .second, .val (.ref a3), .val (.long (own_f0_1 x0 x1 x2)), .second, .unset, .unset] [(.long ((own_f1 x0 x2).toInt64)), (.long (own_f2 x1 x2))]))
    refine own_Goes.step (fun t k => XT.ldiv X16.here hx rfl (hb hby at_39) rfl (own_dnz x0 x1 x2) k) ?_
    show own_Goes p e below s (own_F0 Z x0 x1 x2 n0 h0) room_1.cells room_1.slots (T16.setTop (mkF m 40 #[.val (.int x0), .val (.long x1), .second, .val (.int x2), .val (.int (own_f1 x0 x2)), .val (.long (own_f2 x1 x2)), .second, .val (.ref a3), .val (.long (own_f0_1 x0 x1 x2)), .second, .unset, .unset] [(.long ((own_f2 x1 x2) / ((own_f1 x0 x2).toInt64)))]))
    refine own_Goes.step (fun t k => XT.lstore X16.here hx rfl (hb hby at_40) rfl (l' := #[.val (.int x0), .val (.long x1), .second, .val (.int x2), .val (.int (own_f1 x0 x2)), .val (.long (own_f2 x1 x2)), .second, .val (.ref a3), .val (.long (own_f0_1 x0 x1 x2)), .second, .val (.long ((own_f2 x1 x2) / ((own_f1 x0 x2).toInt64))), .second]) rfl k) ?_
    show own_Goes p e below s (own_F0 Z x0 x1 x2 n0 h0) room_1.cells room_1.slots (T16.setTop (mkF m 42 #[.val (.int x0), .val (.long x1), .second, .val (.int x2), .val (.int (own_f1 x0 x2)), .val (.long (own_f2 x1 x2)), .second, .val (.ref a3), .val (.long (own_f0_1 x0 x1 x2)), .second, .val (.long ((own_f2 x1 x2) / ((own_f1 x0 x2).toInt64))), .second] []))
    refine own_Goes.step (fun t k => XT.lload X16.here hx rfl (hb hby at_42) rfl k) ?_
    show own_Goes p e below s (own_F0 Z x0 x1 x2 n0 h0) room_1.cells room_1.slots (T16.setTop (mkF m 44 #[.val (.int x0), .val (.long x1), .second, .val (.int x2), .val (.int (own_f1 x0 x2)), .val (.long (own_f2 x1 x2)), .second, .val (.ref a3), .val (.long (own_f0_1 x0 x1 x2)), .second, .val (.long ((own_f2 x1 x2) / ((own_f1 x0 x2).toInt64))), .second] [(.long (own_f0_1 x0 x1 x2))]))
    refine own_Goes.step (fun t k => XT.lload X16.here hx rfl (hb hby at_44) rfl k) ?_
    show own_Goes p e below s (own_F0 Z x0 x1 x2 n0 h0) room_1.cells room_1.slots (T16.setTop (mkF m 46 #[.val (.int x0), .val (.long x1), .second, .val (.int x2), .val (.int (own_f1 x0 x2)), .val (.long (own_f2 x1 x2)), .second, .val (.ref a3), .val (.long (own_f0_1 x0 x1 x2)), .second, .val (.long ((own_f2 x1 x2) / ((own_f1 x0 x2).toInt64))), .second] [(.long ((own_f2 x1 x2) / ((own_f1 x0 x2).toInt64))), (.long (own_f0_1 x0 x1 x2))]))
    refine own_Goes.step (fun t k => XT.lcmp X16.here hx rfl (hb hby at_46) rfl k) ?_
    show own_Goes p e below s (own_F0 Z x0 x1 x2 n0 h0) room_1.cells room_1.slots (T16.setTop (mkF m 47 #[.val (.int x0), .val (.long x1), .second, .val (.int x2), .val (.int (own_f1 x0 x2)), .val (.long (own_f2 x1 x2)), .second, .val (.ref a3), .val (.long (own_f0_1 x0 x1 x2)), .second, .val (.long ((own_f2 x1 x2) / ((own_f1 x0 x2).toInt64))), .second] [(.int (XT.cmpL (own_f0_1 x0 x1 x2) ((own_f2 x1 x2) / ((own_f1 x0 x2).toInt64))))]))
    by_cases hc17 : (own_f0_1 x0 x1 x2) = ((own_f2 x1 x2) / ((own_f1 x0 x2).toInt64))
    · refine own_Goes.step (fun t k => XS.ifNo X16.here hx rfl (hb hby at_47) rfl (XT.ll_ne_f hc17) k) ?_
      show own_Goes p e below s (own_F0 Z x0 x1 x2 n0 h0) room_1.cells room_1.slots (T16.setTop (mkF m 50 #[.val (.int x0), .val (.long x1), .second, .val (.int x2), .val (.int (own_f1 x0 x2)), .val (.long (own_f2 x1 x2)), .second, .val (.ref a3), .val (.long (own_f0_1 x0 x1 x2)), .second, .val (.long ((own_f2 x1 x2) / ((own_f1 x0 x2).toInt64))), .second] []))
      refine own_Goes.step (fun t k => XT.iconstV X16.here hx rfl (1 : Int32) (hb hby at_50) (by decide) k) ?_
      show own_Goes p e below s (own_F0 Z x0 x1 x2 n0 h0) room_1.cells room_1.slots (T16.setTop (mkF m 51 #[.val (.int x0), .val (.long x1), .second, .val (.int x2), .val (.int (own_f1 x0 x2)), .val (.long (own_f2 x1 x2)), .second, .val (.ref a3), .val (.long (own_f0_1 x0 x1 x2)), .second, .val (.long ((own_f2 x1 x2) / ((own_f1 x0 x2).toInt64))), .second] [(.int (1 : Int32))]))
      refine own_Goes.step (fun t k => XS.goto X16.here hx rfl (pc0 := 51) (pc' := 55) rfl (hb hby at_51) (by decide) (by decide) k) ?_
      show own_Goes p e below s (own_F0 Z x0 x1 x2 n0 h0) room_1.cells room_1.slots (T16.setTop (mkF m 55 #[.val (.int x0), .val (.long x1), .second, .val (.int x2), .val (.int (own_f1 x0 x2)), .val (.long (own_f2 x1 x2)), .second, .val (.ref a3), .val (.long (own_f0_1 x0 x1 x2)), .second, .val (.long ((own_f2 x1 x2) / ((own_f1 x0 x2).toInt64))), .second] [(.int (1 : Int32))]))
      exact own_endN X16 hx Bd.notSynchronized (t := .boolean) Bd.returns (by simp) (hb hby at_55) ⟨(congrArg (fun z => some (Value.int z)) (show (1 : Int32) = own_f0 x0 x1 x2 from by simp only [own_f0, if_pos hc17])), N13⟩ (by decide) (by decide)
    · refine own_Goes.step (fun t k => XS.ifYes X16.here hx rfl (pc0 := 47) (pc' := 54) rfl (hb hby at_47) rfl (XT.ll_ne_t hc17) (by decide) (by decide) k) ?_
      show own_Goes p e below s (own_F0 Z x0 x1 x2 n0 h0) room_1.cells room_1.slots (T16.setTop (mkF m 54 #[.val (.int x0), .val (.long x1), .second, .val (.int x2), .val (.int (own_f1 x0 x2)), .val (.long (own_f2 x1 x2)), .second, .val (.ref a3), .val (.long (own_f0_1 x0 x1 x2)), .second, .val (.long ((own_f2 x1 x2) / ((own_f1 x0 x2).toInt64))), .second] []))
      refine own_Goes.step (fun t k => XT.iconstV X16.here hx rfl (0 : Int32) (hb hby at_54) (by decide) k) ?_
      show own_Goes p e below s (own_F0 Z x0 x1 x2 n0 h0) room_1.cells room_1.slots (T16.setTop (mkF m 55 #[.val (.int x0), .val (.long x1), .second, .val (.int x2), .val (.int (own_f1 x0 x2)), .val (.long (own_f2 x1 x2)), .second, .val (.ref a3), .val (.long (own_f0_1 x0 x1 x2)), .second, .val (.long ((own_f2 x1 x2) / ((own_f1 x0 x2).toInt64))), .second] [(.int (0 : Int32))]))
      exact own_endN X16 hx Bd.notSynchronized (t := .boolean) Bd.returns (by simp) (hb hby at_55) ⟨(congrArg (fun z => some (Value.int z)) (show (0 : Int32) = own_f0 x0 x1 x2 from by simp only [own_f0, if_neg hc17])), N13⟩ (by decide) (by decide)
  obtain ⟨t2, o2, q1, q2, q3, q4⟩ := hgo
  exact ⟨t2, o2, castTop (ef_0 m x0 x1 x2) q1, q2, q3, q4⟩
theorem own_us (x : Int32) (h : 0 ≤ x.toInt) (y : Int32) (k : Nat) (hk : k < 32) (hy : (y &&& 31).toUInt32.toNat = k) : (XT.ushr x y).toInt = x.toInt / 2 ^ k :=
  Jvm.Kit.i32_iushr (Jvm.Kit.i32_nonneg.mpr h) hy hk
theorem own_nlz (i : Int32) (h : 0 ≤ i.toInt) : ∃ k : Nat, k ≤ 31 ∧ ((32 : Int32) - own_f5 i).toInt = k ∧ (k ≠ 0 → (2 : Int) ^ (k - 1) ≤ i.toInt) ∧ i.toInt < 2 ^ k := by
  have k0 : (0 : Int32).toInt = 0 := rfl
  have hlt := i.toInt_lt
  by_cases h0 : (0 : Int32) < i
  · have hpos : 0 < i.toInt := by rw [own_lt32, k0] at h0; exact h0
    have c16 : (65536 : Int32).toInt = 65536 := rfl
    have c8 : (256 : Int32).toInt = 256 := rfl
    have c4 : (16 : Int32).toInt = 16 := rfl
    have c2 : (4 : Int32).toInt = 4 := rfl
    have u1 : (own_f5_1 i).toInt = if i.toInt < 65536 then i.toInt else i.toInt / 65536 := by
      unfold own_f5_1
      simp only [own_lt32, c16]
      split
      · rfl
      · exact own_us i h 16 16 (by decide) (by decide)
    have p1 : 0 ≤ (own_f5_1 i).toInt := by rw [u1]; split <;> omega
    have u3 : (own_f5_3 i).toInt = if (own_f5_1 i).toInt < 256 then (own_f5_1 i).toInt else (own_f5_1 i).toInt / 256 := by
      unfold own_f5_3
      simp only [own_lt32, c8]
      split
      · rfl
      · exact own_us _ p1 8 8 (by decide) (by decide)
    have p3 : 0 ≤ (own_f5_3 i).toInt := by rw [u3]; split <;> omega
    have u5 : (own_f5_5 i).toInt = if (own_f5_3 i).toInt < 16 then (own_f5_3 i).toInt else (own_f5_3 i).toInt / 16 := by
      unfold own_f5_5
      simp only [own_lt32, c4]
      split
      · rfl
      · exact own_us _ p3 4 4 (by decide) (by decide)
    have p5 : 0 ≤ (own_f5_5 i).toInt := by rw [u5]; split <;> omega
    have u7 : (own_f5_7 i).toInt = if (own_f5_5 i).toInt < 4 then (own_f5_5 i).toInt else (own_f5_5 i).toInt / 4 := by
      unfold own_f5_7
      simp only [own_lt32, c2]
      split
      · rfl
      · exact own_us _ p5 2 2 (by decide) (by decide)
    have p7 : 0 ≤ (own_f5_7 i).toInt := by rw [u7]; split <;> omega
    have u8 : (XT.ushr (own_f5_7 i) (1 : Int32)).toInt = (own_f5_7 i).toInt / 2 := own_us _ p7 1 1 (by decide) (by decide)
    have v2 : (own_f5_2 i).toInt = if i.toInt < 65536 then 31 else 15 := by
      unfold own_f5_2
      simp only [own_lt32, c16]
      split <;> rfl
    have v4 : (own_f5_4 i).toInt = if (own_f5_1 i).toInt < 256 then (own_f5_2 i).toInt else (own_f5_2 i).toInt - 8 := by
      unfold own_f5_4
      simp only [own_lt32, c8]
      have km : (-8 : Int32).toInt = -8 := rfl
      split
      · rfl
      · rw [Jvm.Kit.i32_add (by rw [km, v2]; split <;> omega) (by rw [km, v2]; split <;> omega), km]; omega
    have v6 : (own_f5_6 i).toInt = if (own_f5_3 i).toInt < 16 then (own_f5_4 i).toInt else (own_f5_4 i).toInt - 4 := by
      unfold own_f5_6
      simp only [own_lt32, c4]
      have km : (-4 : Int32).toInt = -4 := rfl
      have b : 0 ≤ (own_f5_4 i).toInt ∧ (own_f5_4 i).toInt ≤ 31 := by rw [v4, v2]; split <;> split <;> omega
      split
      · rfl
      · rw [Jvm.Kit.i32_add (by rw [km]; omega) (by rw [km]; omega), km]; omega
    have v8 : (own_f5_8 i).toInt = if (own_f5_5 i).toInt < 4 then (own_f5_6 i).toInt else (own_f5_6 i).toInt - 2 := by
      unfold own_f5_8
      simp only [own_lt32, c2]
      have km : (-2 : Int32).toInt = -2 := rfl
      have b : -10 ≤ (own_f5_6 i).toInt ∧ (own_f5_6 i).toInt ≤ 31 := by rw [v6, v4, v2]; split <;> split <;> split <;> omega
      split
      · rfl
      · rw [Jvm.Kit.i32_add (by rw [km]; omega) (by rw [km]; omega), km]; omega
    have key : ∃ k : Nat, 1 ≤ k ∧ k ≤ 31 ∧ (own_f5_8 i).toInt - (own_f5_7 i).toInt / 2 = 32 - k ∧ (2 : Int) ^ (k - 1) ≤ i.toInt ∧ i.toInt < 2 ^ k := by
      rw [v8, v6, v4, v2, u7, u5, u3, u1]
      clear v8 v6 v4 v2 u8 u7 u5 u3 u1 p1 p3 p5 p7
      generalize i.toInt = n at *
      by_cases a0 : n < 65536
      · simp only [a0, if_true]
        by_cases a1 : n < 256
        · simp only [a1, if_true]
          by_cases a2 : n < 16
          · simp only [a2, if_true]
            by_cases a3 : n < 4
            · simp only [a3, if_true]
              by_cases a4 : n < 2
              · skip
                exact ⟨1, by omega, by omega, by omega, by show (1 : Int) ≤ n; omega, by show n < (2 : Int); omega⟩
              · skip
                exact ⟨2, by omega, by omega, by omega, by show (2 : Int) ≤ n; omega, by show n < (4 : Int); omega⟩
            · simp only [a3, if_false]
              by_cases a4 : n / 4 < 2
              · skip
                exact ⟨3, by omega, by omega, by omega, by show (4 : Int) ≤ n; omega, by show n < (8 : Int); omega⟩
              · skip
                exact ⟨4, by omega, by omega, by omega, by show (8 : Int) ≤ n; omega, by show n < (16 : Int); omega⟩
          · simp only [a2, if_false]
            by_cases a3 : n / 16 < 4
            · simp only [a3, if_true]
              by_cases a4 : n / 16 < 2
              · skip
                exact ⟨5, by omega, by omega, by omega, by show (16 : Int) ≤ n; omega, by show n < (32 : Int); omega⟩
              · skip
                exact ⟨6, by omega, by omega, by omega, by show (32 : Int) ≤ n; omega, by show n < (64 : Int); omega⟩
            · simp only [a3, if_false]
              by_cases a4 : n / 16 / 4 < 2
              · skip
                exact ⟨7, by omega, by omega, by omega, by show (64 : Int) ≤ n; omega, by show n < (128 : Int); omega⟩
              · skip
                exact ⟨8, by omega, by omega, by omega, by show (128 : Int) ≤ n; omega, by show n < (256 : Int); omega⟩
        · simp only [a1, if_false]
          by_cases a2 : n / 256 < 16
          · simp only [a2, if_true]
            by_cases a3 : n / 256 < 4
            · simp only [a3, if_true]
              by_cases a4 : n / 256 < 2
              · skip
                exact ⟨9, by omega, by omega, by omega, by show (256 : Int) ≤ n; omega, by show n < (512 : Int); omega⟩
              · skip
                exact ⟨10, by omega, by omega, by omega, by show (512 : Int) ≤ n; omega, by show n < (1024 : Int); omega⟩
            · simp only [a3, if_false]
              by_cases a4 : n / 256 / 4 < 2
              · skip
                exact ⟨11, by omega, by omega, by omega, by show (1024 : Int) ≤ n; omega, by show n < (2048 : Int); omega⟩
              · skip
                exact ⟨12, by omega, by omega, by omega, by show (2048 : Int) ≤ n; omega, by show n < (4096 : Int); omega⟩
          · simp only [a2, if_false]
            by_cases a3 : n / 256 / 16 < 4
            · simp only [a3, if_true]
              by_cases a4 : n / 256 / 16 < 2
              · skip
                exact ⟨13, by omega, by omega, by omega, by show (4096 : Int) ≤ n; omega, by show n < (8192 : Int); omega⟩
              · skip
                exact ⟨14, by omega, by omega, by omega, by show (8192 : Int) ≤ n; omega, by show n < (16384 : Int); omega⟩
            · simp only [a3, if_false]
              by_cases a4 : n / 256 / 16 / 4 < 2
              · skip
                exact ⟨15, by omega, by omega, by omega, by show (16384 : Int) ≤ n; omega, by show n < (32768 : Int); omega⟩
              · skip
                exact ⟨16, by omega, by omega, by omega, by show (32768 : Int) ≤ n; omega, by show n < (65536 : Int); omega⟩
      · simp only [a0, if_false]
        by_cases a1 : n / 65536 < 256
        · simp only [a1, if_true]
          by_cases a2 : n / 65536 < 16
          · simp only [a2, if_true]
            by_cases a3 : n / 65536 < 4
            · simp only [a3, if_true]
              by_cases a4 : n / 65536 < 2
              · skip
                exact ⟨17, by omega, by omega, by omega, by show (65536 : Int) ≤ n; omega, by show n < (131072 : Int); omega⟩
              · skip
                exact ⟨18, by omega, by omega, by omega, by show (131072 : Int) ≤ n; omega, by show n < (262144 : Int); omega⟩
            · simp only [a3, if_false]
              by_cases a4 : n / 65536 / 4 < 2
              · skip
                exact ⟨19, by omega, by omega, by omega, by show (262144 : Int) ≤ n; omega, by show n < (524288 : Int); omega⟩
              · skip
                exact ⟨20, by omega, by omega, by omega, by show (524288 : Int) ≤ n; omega, by show n < (1048576 : Int); omega⟩
          · simp only [a2, if_false]
            by_cases a3 : n / 65536 / 16 < 4
            · simp only [a3, if_true]
              by_cases a4 : n / 65536 / 16 < 2
              · skip
                exact ⟨21, by omega, by omega, by omega, by show (1048576 : Int) ≤ n; omega, by show n < (2097152 : Int); omega⟩
              · skip
                exact ⟨22, by omega, by omega, by omega, by show (2097152 : Int) ≤ n; omega, by show n < (4194304 : Int); omega⟩
            · simp only [a3, if_false]
              by_cases a4 : n / 65536 / 16 / 4 < 2
              · skip
                exact ⟨23, by omega, by omega, by omega, by show (4194304 : Int) ≤ n; omega, by show n < (8388608 : Int); omega⟩
              · skip
                exact ⟨24, by omega, by omega, by omega, by show (8388608 : Int) ≤ n; omega, by show n < (16777216 : Int); omega⟩
        · simp only [a1, if_false]
          by_cases a2 : n / 65536 / 256 < 16
          · simp only [a2, if_true]
            by_cases a3 : n / 65536 / 256 < 4
            · simp only [a3, if_true]
              by_cases a4 : n / 65536 / 256 < 2
              · skip
                exact ⟨25, by omega, by omega, by omega, by show (16777216 : Int) ≤ n; omega, by show n < (33554432 : Int); omega⟩
              · skip
                exact ⟨26, by omega, by omega, by omega, by show (33554432 : Int) ≤ n; omega, by show n < (67108864 : Int); omega⟩
            · simp only [a3, if_false]
              by_cases a4 : n / 65536 / 256 / 4 < 2
              · skip
                exact ⟨27, by omega, by omega, by omega, by show (67108864 : Int) ≤ n; omega, by show n < (134217728 : Int); omega⟩
              · skip
                exact ⟨28, by omega, by omega, by omega, by show (134217728 : Int) ≤ n; omega, by show n < (268435456 : Int); omega⟩
          · simp only [a2, if_false]
            by_cases a3 : n / 65536 / 256 / 16 < 4
            · simp only [a3, if_true]
              by_cases a4 : n / 65536 / 256 / 16 < 2
              · skip
                exact ⟨29, by omega, by omega, by omega, by show (268435456 : Int) ≤ n; omega, by show n < (536870912 : Int); omega⟩
              · skip
                exact ⟨30, by omega, by omega, by omega, by show (536870912 : Int) ≤ n; omega, by show n < (1073741824 : Int); omega⟩
            · simp only [a3, if_false]
              by_cases a4 : n / 65536 / 256 / 16 / 4 < 2
              · skip
                exact ⟨31, by omega, by omega, by omega, by show (1073741824 : Int) ≤ n; omega, by show n < (2147483648 : Int); omega⟩
              · skip
                exact absurd hlt (by omega)
    obtain ⟨k, q1, q2, q3, q4, q5⟩ := key
    have b8 : -20 ≤ (own_f5_8 i).toInt ∧ (own_f5_8 i).toInt ≤ 31 := by rw [v8, v6, v4, v2]; split <;> split <;> split <;> split <;> omega
    have b7 : (own_f5_7 i).toInt < 2 ^ 31 := (own_f5_7 i).toInt_lt
    have f : (own_f5 i).toInt = 32 - k := by
      unfold own_f5
      rw [if_pos h0, Jvm.Kit.i32_sub (by rw [u8]; omega) (by rw [u8]; omega), u8, q3]
    have c32 : (32 : Int32).toInt = 32 := rfl
    refine ⟨k, q2, ?_, fun _ => q4, q5⟩
    rw [Jvm.Kit.i32_sub (by rw [c32, f]; omega) (by rw [c32, f]; omega), c32, f]; omega
  · have hz : i.toInt = 0 := by rw [own_lt32, k0] at h0; omega
    have e : i = 0 := by rw [own_eq32]; exact hz
    subst e
    exact ⟨0, by decide, by decide +kernel, fun q => absurd rfl q, by decide⟩
theorem own_shl64 : ∀ k : Fin 63, ((1 : Int64) <<< ((Int32.ofNat k).toInt64 &&& 63)).toInt = 2 ^ k.val := by decide +kernel
theorem own_sh64 : ∀ k : Fin 64, ((Int32.ofNat k).toInt64.toUInt64 &&& Int64.toUInt64 63).toNat = (Int32.ofNat k).toInt.toNat := by decide +kernel
theorem own_shr (A : Int64) (hA : 0 ≤ A.toInt) (j : Int32) (h0 : 0 ≤ j.toInt) (h1 : j.toInt < 64) : (XT.ushrL A j).toInt = A.toInt / 2 ^ j.toInt.toNat := by
  have hn := own_fin32 (P := fun j => (j.toInt64.toUInt64 &&& Int64.toUInt64 63).toNat = j.toInt.toNat) 64 own_sh64 j h0 h1
  exact Jvm.Kit.i64_lushr (Jvm.Kit.i64_nonneg.mpr hA) hn (by omega)
theorem own_ple : ∀ k : Fin 32, (2 : Int) ^ k.val ≤ 2 ^ 31 := by decide +kernel
theorem own_magic (N D K M : Int) (S : Int) (hS : S = 2147483648 * K) (hN0 : 0 ≤ N) (hN : N < 2147483648) (hD : 1 ≤ D) (hDK : D ≤ K) (hM : M = (S + D - 1) / D) : N * M / S = N / D := by
  have hK : 1 ≤ K := by omega
  have hS0 : 0 < S := by omega
  have m1 := Int.emod_add_mul_ediv (S + D - 1) D
  have m2 := Int.emod_nonneg (S + D - 1) (show D ≠ 0 by omega)
  have m3 := Int.emod_lt_of_pos (S + D - 1) (show 0 < D by omega)
  rw [← hM] at m1
  have n1 := Int.emod_add_mul_ediv N D
  have n2 := Int.emod_nonneg N (show D ≠ 0 by omega)
  have n3 := Int.emod_lt_of_pos N (show 0 < D by omega)
  generalize (S + D - 1) % D = ρ at *
  generalize hq : N / D = q at *
  generalize N % D = r at *
  have hq0 : 0 ≤ q := by rw [← hq]; exact Int.ediv_nonneg hN0 (by omega)
  obtain ⟨E, hE⟩ : ∃ E, E = D - 1 - ρ := ⟨_, rfl⟩
  have dm : D * M = S + E := by omega
  have e0 : 0 ≤ E := by omega
  have e1 : E ≤ K - 1 := by omega
  have ne : N * E ≤ 2147483647 * (K - 1) := Int.mul_le_mul (by omega) e1 e0 (by decide)
  have ne0 : 0 ≤ N * E := Int.mul_nonneg hN0 e0
  have nes : N * E < S := by omega
  have nm : D * (N * M) = N * S + N * E := by rw [← Int.mul_assoc, Int.mul_comm D N, Int.mul_assoc, dm, Int.mul_add]
  have lo : S * q ≤ N * M := by
    apply Int.le_of_mul_le_mul_left (a := D) _ (by omega)
    rw [nm]
    have : D * (S * q) = D * q * S := by rw [Int.mul_comm S q, Int.mul_assoc]
    rw [this]
    have : D * q * S ≤ N * S := Int.mul_le_mul_of_nonneg_right (by omega) (by omega)
    omega
  have hi : N * M < S * (q + 1) := by
    apply Int.lt_of_mul_lt_mul_left (a := D) _ (by omega)
    rw [nm]
    have e : D * (S * (q + 1)) = (D * q + D) * S := by rw [Int.mul_comm S, ← Int.mul_assoc, Int.mul_add, Int.mul_one]
    rw [e]
    have : (N + 1) * S ≤ (D * q + D) * S := Int.mul_le_mul_of_nonneg_right (by omega) (by omega)
    rw [Int.add_mul, Int.one_mul] at this
    omega
  apply Int.le_antisymm
  · have := Int.ediv_lt_of_lt_mul hS0 (show N * M < (q + 1) * S by rw [Int.mul_comm (q + 1) S]; exact hi)
    omega
  · exact (Int.le_ediv_iff_mul_le hS0).mpr (by rw [Int.mul_comm q S]; exact lo)
theorem own_law (x0 : Int32) (x1 : Int64) (x2 : Int32) : own_f0 x0 x1 x2 = 1 := by
  have hd := own_d x0 x2
  have key : own_f0_1 x0 x1 x2 = own_f2 x1 x2 / (own_f1 x0 x2).toInt64 := by
    unfold own_f0_1 own_f6 own_f3_divisor
    by_cases hN : own_f2 x1 x2 < (2147483648 : Int64)
    · rw [if_pos hN]
      have hN0 : 0 ≤ (own_f2 x1 x2).toInt := by
        have a : (x1 &&& (2147483647 : Int64)).toInt = x1.toInt % 2 ^ 31 := Jvm.Kit.i64_mask x1 _ (k := 31) (by decide) (by decide)
        have b : (x1 &&& (9223372036854775807 : Int64)).toInt = x1.toInt % 2 ^ 63 := Jvm.Kit.i64_mask x1 _ (k := 63) (by decide) (by decide)
        have c : (x1 &&& (65535 : Int64)).toInt = x1.toInt % 2 ^ 16 := Jvm.Kit.i64_mask x1 _ (k := 16) (by decide) (by decide)
        have k1 : (2147483647 : Int64).toInt = 2147483647 := rfl
        have k2 : (2147483648 : Int64).toInt = 2147483648 := rfl
        unfold own_f2
        split
        · omega
        · split
          · omega
          · split
            · rw [Jvm.Kit.i64_sub (by rw [k1]; omega) (by rw [k1]; omega), k1]; omega
            · rw [Jvm.Kit.i64_add (by rw [k2]; omega) (by rw [k2]; omega), k2]; omega
      have k2 : (2147483648 : Int64).toInt = 2147483648 := rfl
      rw [own_lt64, k2] at hN
      generalize own_f2 x1 x2 = n at *
      generalize own_f1 x0 x2 = d at *
      have k1 : (1 : Int32).toInt = 1 := rfl
      have hdl := d.toInt_lt
      have d1 : (d - (1 : Int32)).toInt = d.toInt - 1 := by rw [Jvm.Kit.i32_sub (by rw [k1]; omega) (by rw [k1]; omega), k1]
      obtain ⟨k, hk, e1, e2, e3⟩ := own_nlz (d - 1) (by omega)
      rw [d1] at e2 e3
      have k31 : (31 : Int32).toInt = 31 := rfl
      have sh : (own_f3_1 d).toInt = 31 + k := by
        unfold own_f3_1
        rw [Jvm.Kit.i32_add (by rw [k31, e1]; omega) (by rw [k31, e1]; omega), k31, e1]
      have pw : ((1 : Int64) <<< ((own_f3_1 d).toInt64 &&& 63)).toInt = 2 ^ (31 + k) := by
        have := own_fin32 (P := fun j => ((1 : Int64) <<< (j.toInt64 &&& 63)).toInt = 2 ^ j.toInt.toNat) 63 (fun k => by
          have h := own_shl64 k
          have e : (Int32.ofNat k).toInt.toNat = k.val := by
            rw [Int32.toInt_ofNat_of_lt (by omega)]; omega
          rw [e]; exact h) (own_f3_1 d) (by omega) (by omega)
        rw [this]
        congr 1
        omega
      have k64 : (1 : Int64).toInt = 1 := rfl
      have pk : (2 : Int) ^ (31 + k) = 2147483648 * 2 ^ k := by rw [Int.pow_add]; rfl
      have pk0 : (1 : Int) ≤ 2 ^ k := Int.pow_pos (by decide)
      have pk1 : (2 : Int) ^ k ≤ 2 ^ 31 := own_ple ⟨k, by omega⟩
      have dk : d.toInt ≤ 2 ^ k := by omega
      have dl := Jvm.Kit.i64_of_i32 d
      have A1 : ((1 : Int64) <<< ((own_f3_1 d).toInt64 &&& 63) + d.toInt64).toInt = 2147483648 * 2 ^ k + d.toInt := by
        rw [Jvm.Kit.i64_add (by rw [pw, dl, pk]; omega) (by rw [pw, dl, pk]; omega), pw, dl, pk]
      have A2 : ((1 : Int64) <<< ((own_f3_1 d).toInt64 &&& 63) + d.toInt64 - (1 : Int64)).toInt = 2147483648 * 2 ^ k + d.toInt - 1 := by
        rw [Jvm.Kit.i64_sub (by rw [A1, k64]; omega) (by rw [A1, k64]; omega), A1, k64]
      have A3 : (own_f3_2 d).toInt = (2147483648 * 2 ^ k + d.toInt - 1) / d.toInt := by
        unfold own_f3_2
        rw [Jvm.Kit.i64_div (by rw [dl]; omega), A2, dl, Int.tdiv_eq_ediv_of_nonneg (by omega)]
      have M0 : 0 ≤ (own_f3_2 d).toInt := by rw [A3]; exact Int.ediv_nonneg (by omega) (by omega)
      have M1 : (own_f3_2 d).toInt ≤ 4294967296 := by
        rw [A3]
        have : (2147483648 * 2 ^ k + d.toInt - 1) / d.toInt < 4294967297 := by
          apply Int.ediv_lt_of_lt_mul (by omega)
          by_cases hk0 : k = 0
          · subst hk0
            omega
          · have q := e2 hk0
            have pp : (2 : Int) ^ k = 2 * 2 ^ (k - 1) := by
              obtain ⟨j, rfl⟩ : ∃ j, k = j + 1 := ⟨k - 1, by omega⟩
              rw [Int.pow_succ, Int.mul_comm]; rfl
            omega
        omega
      have P0 : 0 ≤ n.toInt * (own_f3_2 d).toInt := Int.mul_nonneg hN0 M0
      have P1 : n.toInt * (own_f3_2 d).toInt ≤ 2147483647 * 4294967296 := Int.mul_le_mul (by omega) M1 M0 (by decide)
      have P : (n * own_f3_2 d).toInt = n.toInt * (own_f3_2 d).toInt := Jvm.Kit.i64_mul (by omega) (by omega)
      have Sh := own_shr (n * own_f3_2 d) (by omega) (own_f3_1 d) (by omega) (by omega)
      have sn : (own_f3_1 d).toInt.toNat = 31 + k := by omega
      unfold own_f3_multiplier own_f3_shift
      rw [own_eq64, Sh, P, sn, Jvm.Kit.i64_div (by rw [dl]; omega), dl, Int.tdiv_eq_ediv_of_nonneg hN0, pk]
      exact own_magic n.toInt d.toInt (2 ^ k) _ _ rfl hN0 (by omega) hd dk A3
    · rw [if_neg hN]
  rw [own_f0, if_pos key]
set_option maxRecDepth 65536 in
set_option maxHeartbeats 40000000 in
theorem comes_1 {Post : Tables → Env → Array Value → State → Outcome → State → Prop} (hpost : ∀ tb e args s v u, (limb_1_1.after args s (.returned v) u = true ∧ limb_1_2.after args s (.returned v) u = true ∧ True) → FrameEnd s (.returned v) u (Jvm.fieldLocs frame_1_writes args s ++ Jvm.arrayLocs frame_1_arrays args s ++ Jvm.staticLocs frame_1_statics s) 16 128 → Post tb e args s (.returned v) u) :
    ArmFor flags0 classFile x code maxLocals ret World_1 tables_1 room_1 Calls_1 rest_1 Pre_1 Post := by
  intro l hfl _ _ p e ha hc hk s m args below hf hA hF happ hP
  obtain ⟨hcalls, hrest, hpre⟩ := hP
  obtain ⟨-, -, -, hnamed, -, -, -, hat⟩ := (Spec.applies_iff hf).mp happ
  obtain ⟨hg, hn⟩ := and_e (Cond.before_iff.mp (show (Jvm.Cond.and given_1 narrow_1).before args s = true from hpre))
  obtain ⟨hcount, hr0⟩ := and_e hg
  obtain ⟨w0, w1, w2, rfl⟩ : ∃ w0 w1 w2 : Value, args = #[w0, w1, w2] := by
    have hs : args.size = 3 := by simpa [Cond.value, given_1] using hcount
    obtain ⟨L⟩ := args
    match L, hs with
    | [w0, w1, w2], _ => exact ⟨w0, w1, w2, rfl⟩
  have hw := fun d (hd : d ∈ tables_1) => atoms_spec (ws := Jvm.Cond.code x code maxLocals ret :: tables_1) hat d (List.mem_cons_of_mem _ hd)
  obtain ⟨ha0, hr1⟩ := and_e hr0
  obtain ⟨i0, ev0⟩ := is_v ha0
  obtain rfl : w0 = (.int i0) := Option.some.inj ev0
  obtain ⟨ha1, hr2⟩ := and_e hr1
  obtain ⟨i1, ev1⟩ := isL_v ha1
  obtain rfl : w1 = (.long i1) := Option.some.inj ev1
  obtain ⟨i2, ev2⟩ := is_v hr2
  obtain rfl : w2 = (.int i2) := Option.some.inj ev2
  obtain ⟨n, o, h1, h2, h3, _, L, rfl, ⟨rfl, N⟩, hq⟩ := own_m0 l s _ hw tables_1 i0 i1 i2 s.heap.size s.heap (Nat.le_refl _) p e ha hc hk s m _ below hf ((Spec.applies_iff_loose hf).mp happ).1 ⟨rfl, State.Warmed39.refl s, rfl⟩ trivial
  rw [own_law i0 i1 i2] at h3 hq
  refine ⟨n, _, h1, h2, h3, hpost _ _ _ _ _ _ ⟨Cond.after_iff.mpr rfl, Cond.after_iff.mpr (eq_i res_at (Term.int_eval (1)) rfl), trivial⟩ ⟨hq.1, hq.2.1, (hq.2.2.sift fun y hy => Or.inr (N y hy)).mono (by decide) (by decide)⟩⟩
theorem main_1_1 : Claimed_1_1 := comes_1 fun _ _ _ _ _ _ h hF => ⟨h.1, hF⟩
theorem main_1_2 : Claimed_1_2 := comes_1 fun _ _ _ _ _ _ h hF => ⟨h.2.1, hF⟩
end Jvm.Pilot.@@N@@
namespace Jvm.Pilot.@@N@@
open Jvm Jvm.ClassFile Sem Op Lib Jvm.Free Jvm.Stand Jvm.Pilot.@@N@@.Jvm.D
/-! MADE BY PROGRAM (witnessworld.py) out of the Statement's table words and the real class files: 14 classes; the members and pool entries that the words name. The judged class is class 1, her method 3. -/
namespace start1
open Jvm.ClassFile
def u (s : String) : CpInfo := .utf8 (stringToUtf16 s)
/-- a pool by its gaps: so many unusable entries, then the entry; so many at the end -/
def gap : Nat → List CpInfo → List CpInfo
  | 0, r => r
  | n + 1, r => .unusable :: gap n r
def poolList (es : List (Nat × CpInfo)) (last : Nat) : List CpInfo := es.foldr (fun e r => gap e.1 (e.2 :: r)) (gap last [])
def pool (es : List (Nat × CpInfo)) (last : Nat) : Array CpInfo := ⟨poolList es last⟩
def fileOf (pool : Array CpInfo) (this : Nat) (attrs : Array Attribute := #[]) (ms : Array MethodInfo := #[]) (fl : Nat := 33) (sup : Nat := 0) (ifs : Array Nat := #[]) (fds : Array FieldInfo := #[]) : ClassFile where
  minorVersion := 0
  majorVersion := 65
  constantPool := pool
  accessFlags := fl
  thisClass := this
  superClass := sup
  interfaces := ifs
  fields := fds
  methods := ms
  attributes := attrs
def plain (name : String) (sup : Option ClassId) : Class where
  name := name
  kind := .ordinary
  loader := none
  accessFlags := 33
  super := sup
  interfaces := #[]
  cf := none
  fields := #[]
  methods := #[]
  instanceTypes := #[]
  staticTypes := #[]
  resolved := #[]
  callSites := []
  init := .initialized
  statics := none
  mirror := none

def pool0 : Array CpInfo := pool [(5, u "<init>"), (0, u "()V"), (1, .class_ 10), (1, u "java/lang/Object")] 113

def k0c0 : Code := { maxStack := 0, maxLocals := 1, code := object_method_1_code, exceptionTable := #[], attributes := #[] }
def k0m0 : Method := { name := "<init>", desc := "()V", sig := { parameters := [], returnType := none }, accessFlags := 1, code := some k0c0 }
/-- java/lang/Object -/
def k0 : Class := { plain "java/lang/Object" none with
  accessFlags := 33
  interfaces := #[]
  cf := some (fileOf pool0 8 #[] #[{ accessFlags := 1, nameIndex := 5, descriptorIndex := 6, attributes := #[] }] 33 0 #[] #[])
  fields := #[]
  methods := #[k0m0]
  instanceTypes := #[]
  staticTypes := #[]
  resolved := Array.replicate 124 none
  statics := none }

def pool1 : Array CpInfo := pool [(2, .class_ 4), (1, u "java/lang/Object"), (0, u "<init>"), (0, u "()V"), (0, .integer 2147483647), (0, .long 2147483647), (3, .long 9223372036854775807), (1, .long 65535), (1, .long 2147483648), (1, .methodref 19 20), (0, .class_ 21), (0, .nameAndType 22 23), (0, u "com/example/keystead/keystead/DivisorQuotientPinLaw"), (0, u "pickDivisor"), (0, u "(II)I"), (0, .methodref 19 25), (0, .nameAndType 26 27), (0, u "pickN"), (0, u "(JI)J"), (0, .class_ 29), (0, u "com/example/keystead/keystead/Divisor"), (0, .methodref 28 31), (0, .nameAndType 5 32), (0, u "(I)V"), (0, .methodref 28 34), (0, .nameAndType 35 36), (0, u "quotient"), (0, u "(J)J"), (3, u "law"), (0, u "(IJI)Z")] 2

def k1m0 : Method := { name := "<init>", desc := "()V", sig := { parameters := [], returnType := none }, accessFlags := 2, code := none }
def k1c1 : Code := { maxStack := 3, maxLocals := 3, code := method_2_code, exceptionTable := #[], attributes := #[] }
def k1m1 : Method := { name := "pickDivisor", desc := "(II)I", sig := { parameters := [.int, .int], returnType := some .int }, accessFlags := 10, code := some k1c1 }
def k1c2 : Code := { maxStack := 6, maxLocals := 4, code := method_3_code, exceptionTable := #[], attributes := #[] }
def k1m2 : Method := { name := "pickN", desc := "(JI)J", sig := { parameters := [.long, .int], returnType := some .long }, accessFlags := 10, code := some k1c2 }
def k1c3 : Code := { maxStack := 4, maxLocals := 12, code := code, exceptionTable := #[], attributes := #[] }
def k1m3 : Method := { name := "law", desc := "(IJI)Z", sig := { parameters := [.int, .long, .int], returnType := some .boolean }, accessFlags := 9, code := some k1c3 }
/-- com/example/keystead/keystead/DivisorQuotientPinLaw -/
def k1 : Class := { plain "com/example/keystead/keystead/DivisorQuotientPinLaw" (some 0) with
  accessFlags := 49
  interfaces := #[]
  cf := some (fileOf pool1 19 #[] #[{ accessFlags := 2, nameIndex := 5, descriptorIndex := 6, attributes := #[] }, { accessFlags := 10, nameIndex := 22, descriptorIndex := 23, attributes := #[] }, { accessFlags := 10, nameIndex := 26, descriptorIndex := 27, attributes := #[] }, { accessFlags := 9, nameIndex := 40, descriptorIndex := 41, attributes := #[] }] 49 2 #[] #[])
  fields := #[]
  methods := #[k1m0, k1m1, k1m2, k1m3]
  instanceTypes := #[]
  staticTypes := #[]
  resolved := Array.replicate 44 none
  statics := none }

def pool2 : Array CpInfo := pool [(1, .methodref 2 3), (0, .class_ 4), (0, .nameAndType 5 6), (0, u "java/lang/Object"), (0, u "<init>"), (0, u "()V"), (0, .fieldref 8 9), (0, .class_ 10), (0, .nameAndType 11 12), (0, u "com/example/keystead/keystead/Divisor"), (0, u "divisor"), (0, u "I"), (0, .methodref 14 15), (0, .class_ 16), (0, .nameAndType 17 18), (0, u "java/lang/Integer"), (0, u "numberOfLeadingZeros"), (0, u "(I)I"), (0, .fieldref 8 20), (0, .nameAndType 21 12), (0, u "shift"), (0, .fieldref 8 23), (0, .nameAndType 24 25), (0, u "multiplier"), (0, u "J"), (0, .long 2147483648), (3, u "quotient"), (0, u "(J)J"), (0, u "BELOW"), (1, u "(I)V")] 6

def k2c0 : Code := { maxStack := 5, maxLocals := 2, code := prog_20_method_1_code, exceptionTable := #[], attributes := #[] }
def k2m0 : Method := { name := "<init>", desc := "(I)V", sig := { parameters := [.int], returnType := none }, accessFlags := 0, code := some k2c0 }
def k2c1 : Code := { maxStack := 4, maxLocals := 3, code := prog_20_method_2_code, exceptionTable := #[], attributes := #[] }
def k2m1 : Method := { name := "quotient", desc := "(J)J", sig := { parameters := [.long], returnType := some .long }, accessFlags := 0, code := some k2c1 }
/-- com/example/keystead/keystead/Divisor -/
def k2 : Class := { plain "com/example/keystead/keystead/Divisor" (some 0) with
  accessFlags := 48
  interfaces := #[]
  cf := some (fileOf pool2 8 #[] #[{ accessFlags := 0, nameIndex := 5, descriptorIndex := 34, attributes := #[] }, { accessFlags := 0, nameIndex := 30, descriptorIndex := 31, attributes := #[] }] 48 2 #[] #[{ accessFlags := 26, nameIndex := 32, descriptorIndex := 25, attributes := #[] }, { accessFlags := 18, nameIndex := 11, descriptorIndex := 12, attributes := #[] }, { accessFlags := 18, nameIndex := 24, descriptorIndex := 25, attributes := #[] }, { accessFlags := 18, nameIndex := 21, descriptorIndex := 12, attributes := #[] }])
  fields := #[{ name := "BELOW", type := .long, accessFlags := 26, slot := 0, constantValue := 0 }, { name := "divisor", type := .int, accessFlags := 18, slot := 0, constantValue := 0 }, { name := "multiplier", type := .long, accessFlags := 18, slot := 1, constantValue := 0 }, { name := "shift", type := .int, accessFlags := 18, slot := 2, constantValue := 0 }]
  methods := #[k2m0, k2m1]
  instanceTypes := #[.int, .long, .int]
  staticTypes := #[.long]
  resolved := Array.replicate 41 none
  statics := none }

def pool3 : Array CpInfo := pool [(1, .class_ 2), (0, u "java/io/Serializable"), (0, .class_ 4), (0, u "java/lang/Object")] 2

/-- java/io/Serializable -/
def k3 : Class := { plain "java/io/Serializable" (some 0) with
  accessFlags := 1537
  interfaces := #[]
  cf := some (fileOf pool3 1 #[] #[] 1537 3 #[] #[])
  fields := #[]
  methods := #[]
  instanceTypes := #[]
  staticTypes := #[]
  resolved := Array.replicate 7 none
  statics := none }

def pool4 : Array CpInfo := pool [(2, .class_ 4), (1, u "java/lang/Object"), (0, u "<init>"), (0, u "()V"), (1, .class_ 10), (1, u "java/lang/Number"), (2, .class_ 14), (0, u "java/io/Serializable"), (0, u "serialVersionUID"), (0, u "J")] 20

def k4m0 : Method := { name := "<init>", desc := "()V", sig := { parameters := [], returnType := none }, accessFlags := 1, code := none }
/-- java/lang/Number -/
def k4 : Class := { plain "java/lang/Number" (some 0) with
  accessFlags := 1057
  interfaces := #[3]
  cf := some (fileOf pool4 8 #[] #[{ accessFlags := 1, nameIndex := 5, descriptorIndex := 6, attributes := #[] }] 1057 2 #[13] #[{ accessFlags := 26, nameIndex := 15, descriptorIndex := 16, attributes := #[] }])
  fields := #[{ name := "serialVersionUID", type := .long, accessFlags := 26, slot := 0, constantValue := 0 }]
  methods := #[k4m0]
  instanceTypes := #[]
  staticTypes := #[.long]
  resolved := Array.replicate 37 none
  statics := none }

def pool5 : Array CpInfo := pool [(1, .class_ 2), (0, u "java/lang/Comparable"), (0, .class_ 4), (0, u "java/lang/Object")] 7

/-- java/lang/Comparable -/
def k5 : Class := { plain "java/lang/Comparable" (some 0) with
  accessFlags := 1537
  interfaces := #[]
  cf := some (fileOf pool5 1 #[] #[] 1537 3 #[] #[])
  fields := #[]
  methods := #[]
  instanceTypes := #[]
  staticTypes := #[]
  resolved := Array.replicate 12 none
  statics := none }

def pool6 : Array CpInfo := pool [(1, .class_ 2), (0, u "java/lang/constant/Constable"), (0, .class_ 4), (0, u "java/lang/Object")] 6

/-- java/lang/constant/Constable -/
def k6 : Class := { plain "java/lang/constant/Constable" (some 0) with
  accessFlags := 1537
  interfaces := #[]
  cf := some (fileOf pool6 1 #[] #[] 1537 3 #[] #[])
  fields := #[]
  methods := #[]
  instanceTypes := #[]
  staticTypes := #[]
  resolved := Array.replicate 11 none
  statics := none }

def pool7 : Array CpInfo := pool [(1, .class_ 2), (0, u "java/lang/constant/ConstantDesc"), (0, .class_ 4), (0, u "java/lang/Object")] 32

/-- java/lang/constant/ConstantDesc -/
def k7 : Class := { plain "java/lang/constant/ConstantDesc" (some 0) with
  accessFlags := 1537
  interfaces := #[]
  cf := some (fileOf pool7 1 #[] #[] 1537 3 #[] #[])
  fields := #[]
  methods := #[]
  instanceTypes := #[]
  staticTypes := #[]
  resolved := Array.replicate 37 none
  statics := none }

def pool8 : Array CpInfo := pool [(1, .class_ 2), (0, u "java/lang/Integer"), (16, u "digits"), (0, u "[C"), (32, u "numberOfLeadingZeros"), (0, u "(I)I"), (30, u "DigitOnes"), (0, u "[B"), (2, u "DigitTens"), (99, .class_ 190), (0, u "java/lang/Integer$IntegerCache"), (3, u "I"), (8, .class_ 204), (0, u "java/lang/Number"), (2, u "value"), (56, .integer 65536), (37, u "TYPE"), (0, u "Ljava/lang/Class;"), (0, .class_ 305), (0, u "java/lang/Comparable"), (0, .class_ 307), (0, u "java/lang/constant/Constable"), (0, .class_ 309), (0, u "java/lang/constant/ConstantDesc"), (0, u "MIN_VALUE"), (1, u "MAX_VALUE"), (3, u "SIZE"), (1, u "BYTES"), (1, u "serialVersionUID"), (0, u "J")] 131

def k8c0 : Code := { maxStack := 3, maxLocals := 2, code := jdk_33_method_47_code, exceptionTable := #[], attributes := #[] }
def k8m0 : Method := { name := "numberOfLeadingZeros", desc := "(I)I", sig := { parameters := [.int], returnType := some .int }, accessFlags := 9, code := some k8c0 }
/-- java/lang/Integer -/
def k8 : Class := { plain "java/lang/Integer" (some 4) with
  accessFlags := 49
  interfaces := #[5, 6, 7]
  cf := some (fileOf pool8 1 #[.nestMembers #[189]] #[{ accessFlags := 9, nameIndex := 53, descriptorIndex := 54, attributes := #[] }] 49 203 #[304, 306, 308] #[{ accessFlags := 25, nameIndex := 310, descriptorIndex := 194, attributes := #[] }, { accessFlags := 25, nameIndex := 312, descriptorIndex := 194, attributes := #[] }, { accessFlags := 25, nameIndex := 302, descriptorIndex := 303, attributes := #[] }, { accessFlags := 24, nameIndex := 19, descriptorIndex := 20, attributes := #[] }, { accessFlags := 24, nameIndex := 89, descriptorIndex := 86, attributes := #[] }, { accessFlags := 24, nameIndex := 85, descriptorIndex := 86, attributes := #[] }, { accessFlags := 18, nameIndex := 207, descriptorIndex := 194, attributes := #[] }, { accessFlags := 25, nameIndex := 316, descriptorIndex := 194, attributes := #[] }, { accessFlags := 25, nameIndex := 318, descriptorIndex := 194, attributes := #[] }, { accessFlags := 26, nameIndex := 320, descriptorIndex := 321, attributes := #[] }])
  fields := #[{ name := "MIN_VALUE", type := .int, accessFlags := 25, slot := 0, constantValue := 0 }, { name := "MAX_VALUE", type := .int, accessFlags := 25, slot := 1, constantValue := 0 }, { name := "TYPE", type := (.object "java/lang/Class"), accessFlags := 25, slot := 2, constantValue := 0 }, { name := "digits", type := (.array .char), accessFlags := 24, slot := 3, constantValue := 0 }, { name := "DigitTens", type := (.array .byte), accessFlags := 24, slot := 4, constantValue := 0 }, { name := "DigitOnes", type := (.array .byte), accessFlags := 24, slot := 5, constantValue := 0 }, { name := "value", type := .int, accessFlags := 18, slot := 0, constantValue := 0 }, { name := "SIZE", type := .int, accessFlags := 25, slot := 6, constantValue := 0 }, { name := "BYTES", type := .int, accessFlags := 25, slot := 7, constantValue := 0 }, { name := "serialVersionUID", type := .long, accessFlags := 26, slot := 8, constantValue := 0 }]
  methods := #[k8m0]
  instanceTypes := #[.int]
  staticTypes := #[.int, .int, (.object "java/lang/Class"), (.array .char), (.array .byte), (.array .byte), .int, .int, .long]
  resolved := Array.replicate 453 none
  statics := none }

def pool9 : Array CpInfo := pool [(1, u "java/lang/Cloneable"), (0, .class_ 1), (0, u "java/lang/Object"), (0, .class_ 3)] 3

/-- java/lang/Cloneable -/
def k9 : Class := { plain "java/lang/Cloneable" (some 0) with
  accessFlags := 1537
  interfaces := #[]
  cf := some (fileOf pool9 2 #[] #[] 1537 4 #[] #[])
  fields := #[]
  methods := #[]
  instanceTypes := #[]
  staticTypes := #[]
  resolved := Array.replicate 8 none
  statics := none }

/-- the primitive byte -/
def k10 : Class := { plain "byte" none with kind := .primitive 'B', accessFlags := 0x411 }
/-- [B -/
def k11 : Class := { plain "[B" (some 0) with kind := .array 10 .byte, interfaces := #[9, 3], accessFlags := 1041 }

/-- the primitive int -/
def k12 : Class := { plain "int" none with kind := .primitive 'I', accessFlags := 0x411 }
/-- [I -/
def k13 : Class := { plain "[I" (some 0) with kind := .array 12 .int, interfaces := #[9, 3], accessFlags := 1041 }

def heap : Heap := #[]
def classes : Array Class := #[k0, k1, k2, k3, k4, k5, k6, k7, k8, k9, k10, k11, k12, k13]
def interned : List (Array UInt16 × Addr) := []
def slotsUsed : Nat := 0
def theMethod : MethodId := ⟨1, 3⟩
def args0 : Array Value := #[.int 7, .long 100, .int 0]
def aboutOver (below : List Frame) : State where
  vm := { classes := classes, interned := interned.toArray }
  heap := heap
  slotsUsed := slotsUsed
  threads := #[{ frames := .invoking theMethod args0 :: below }]
def below0 : List Frame := [.native { method := ⟨0, 0⟩, args := #[] }]
def about1 : State := aboutOver below0
def p0 : Program := .bare "" "" ""
def e0 : Env := launch0.env 0 0 0
theorem w_frames : about1.frames = Frame.invoking theMethod args0 :: below0 := rfl
set_option maxRecDepth 65536 in
theorem w_args : argsFit about1.vm theMethod args0 = true := by decide +kernel
set_option maxRecDepth 65536 in
theorem w_heap : heapFits about1 = true := by decide +kernel
set_option maxRecDepth 65536 in
theorem w_runnable : about1.curStatus? = some .runnable := by decide +kernel
set_option maxRecDepth 65536 in
theorem w_alone : about1.alone = true := by decide +kernel
set_option maxRecDepth 65536 in
theorem w_named : about1.methodNamed? x = some theMethod := by decide +kernel
set_option maxRecDepth 65536 in
theorem w_hears : about1.hears theMethod below0 = true := by decide +kernel
set_option maxRecDepth 65536 in
theorem w_ripe : about1.ripe theMethod args0 below0 = true := by decide +kernel
theorem w_running : about1.status = .running := rfl
set_option maxRecDepth 65536 in
theorem w_room : about1.hasRoom e0.platform room_1 = true :=
  launch0.hasRoom_least _ room_1 (by decide +kernel) (by decide +kernel) (by decide +kernel) (by decide +kernel) (by decide +kernel) (by decide +kernel)
theorem allAtoms_all (ts : List Jvm.Cond) (a : Array Jvm.Value) (st : Jvm.State) : (allAtoms ts).before a st = ts.all (fun c => c.before a st) := by
  induction ts with
  | nil => rfl
  | cons c t ih =>
    show (Jvm.Cond.and c (allAtoms t)).before a st = _
    rw [Jvm.Cond.before_and, ih, List.all_cons]
def words1 : List Jvm.Cond := Jvm.Cond.code x code maxLocals ret :: tables_1
/-- a 'code' word, met by the world's own term for the bytes: nothing is compared byte by byte -/
theorem code_word {y : MethodName} {bytes : ByteArray} {mx : Nat} {rt : Option FieldType} {a : Array Value} {s : State} {m : MethodId} {meth : Method} {c : Code} (h1 : s.methodNamed? y = some m) (h2 : s.vm.method? m = some meth) (h3 : meth.code = some c) (h4 : c.code = bytes)
    (h5 : (c.maxLocals == mx && c.exceptionTable.isEmpty && decide (c.maxStack ≤ mostOperands) && decide (meth.sig.returnType = rt) && !meth.locks && decide (parseMethodDescriptor y.desc = some meth.sig)) = true) : (Jvm.Cond.code y bytes mx rt).before a s = true := by
  simp only [Bool.and_eq_true, beq_iff_eq, Bool.not_eq_true', decide_eq_true_eq] at h5
  obtain ⟨⟨⟨⟨⟨g1, g2⟩, g3⟩, g4⟩, g5⟩, g6⟩ := h5
  simp [Cond.before, Cond.holds, Cond.value, h1, h2, h3, h4, g1, g2, g3, g4, g5, g6]
def isCode : Jvm.Cond → Bool
  | .code _ _ _ _ => true
  | _ => false
theorem all_split {L : List Jvm.Cond} {P : Jvm.Cond → Bool} (h1 : L.all (fun c => isCode c || P c) = true) (h2 : ∀ c ∈ L.filter isCode, P c = true) : L.all P = true := by
  refine List.all_eq_true.mpr fun c hc => ?_
  have h := List.all_eq_true.mp h1 c hc
  rcases Bool.eq_false_or_eq_true (isCode c) with hi | hi
  · exact h2 c (List.mem_filter.mpr ⟨hc, hi⟩)
  · simpa [hi] using h
set_option maxRecDepth 65536 in
theorem w_c0 : (Jvm.Cond.code x code maxLocals ret).before args0 about1 = true := code_word (m := ⟨1, 3⟩) (meth := k1m3) (c := k1c3) (by decide +kernel) rfl rfl rfl (by decide +kernel)
set_option maxRecDepth 65536 in
theorem w_c1 : (Jvm.Cond.code ({ cls := "com/example/keystead/keystead/DivisorQuotientPinLaw", name := "pickDivisor", desc := "(II)I" } : Jvm.MethodName) method_2_code (3 : Nat) (Option.some Jvm.ClassFile.FieldType.int)).before args0 about1 = true := code_word (m := ⟨1, 1⟩) (meth := k1m1) (c := k1c1) (by decide +kernel) rfl rfl rfl (by decide +kernel)
set_option maxRecDepth 65536 in
theorem w_c2 : (Jvm.Cond.code ({ cls := "com/example/keystead/keystead/DivisorQuotientPinLaw", name := "pickN", desc := "(JI)J" } : Jvm.MethodName) method_3_code (4 : Nat) (Option.some Jvm.ClassFile.FieldType.long)).before args0 about1 = true := code_word (m := ⟨1, 2⟩) (meth := k1m2) (c := k1c2) (by decide +kernel) rfl rfl rfl (by decide +kernel)
set_option maxRecDepth 65536 in
theorem w_c3 : (Jvm.Cond.code ({ cls := "com/example/keystead/keystead/Divisor", name := "<init>", desc := "(I)V" } : Jvm.MethodName) prog_20_method_1_code (2 : Nat) (Option.none : Option Jvm.ClassFile.FieldType)).before args0 about1 = true := code_word (m := ⟨2, 0⟩) (meth := k2m0) (c := k2c0) (by decide +kernel) rfl rfl rfl (by decide +kernel)
set_option maxRecDepth 65536 in
theorem w_c4 : (Jvm.Cond.code ({ cls := "java/lang/Object", name := "<init>", desc := "()V" } : Jvm.MethodName) object_method_1_code (1 : Nat) (Option.none : Option Jvm.ClassFile.FieldType)).before args0 about1 = true := code_word (m := ⟨0, 0⟩) (meth := k0m0) (c := k0c0) (by decide +kernel) rfl rfl rfl (by decide +kernel)
set_option maxRecDepth 65536 in
theorem w_c5 : (Jvm.Cond.code ({ cls := "java/lang/Integer", name := "numberOfLeadingZeros", desc := "(I)I" } : Jvm.MethodName) jdk_33_method_47_code (2 : Nat) (Option.some Jvm.ClassFile.FieldType.int)).before args0 about1 = true := code_word (m := ⟨8, 0⟩) (meth := k8m0) (c := k8c0) (by decide +kernel) rfl rfl rfl (by decide +kernel)
set_option maxRecDepth 65536 in
theorem w_c6 : (Jvm.Cond.code ({ cls := "com/example/keystead/keystead/Divisor", name := "quotient", desc := "(J)J" } : Jvm.MethodName) prog_20_method_2_code (3 : Nat) (Option.some Jvm.ClassFile.FieldType.long)).before args0 about1 = true := code_word (m := ⟨2, 1⟩) (meth := k2m1) (c := k2c1) (by decide +kernel) rfl rfl rfl (by decide +kernel)
def codes1 : List Jvm.Cond := [Jvm.Cond.code x code maxLocals ret, Jvm.Cond.code ({ cls := "com/example/keystead/keystead/DivisorQuotientPinLaw", name := "pickDivisor", desc := "(II)I" } : Jvm.MethodName) method_2_code (3 : Nat) (Option.some Jvm.ClassFile.FieldType.int), Jvm.Cond.code ({ cls := "com/example/keystead/keystead/DivisorQuotientPinLaw", name := "pickN", desc := "(JI)J" } : Jvm.MethodName) method_3_code (4 : Nat) (Option.some Jvm.ClassFile.FieldType.long), Jvm.Cond.code ({ cls := "com/example/keystead/keystead/Divisor", name := "<init>", desc := "(I)V" } : Jvm.MethodName) prog_20_method_1_code (2 : Nat) (Option.none : Option Jvm.ClassFile.FieldType), Jvm.Cond.code ({ cls := "java/lang/Object", name := "<init>", desc := "()V" } : Jvm.MethodName) object_method_1_code (1 : Nat) (Option.none : Option Jvm.ClassFile.FieldType), Jvm.Cond.code ({ cls := "java/lang/Integer", name := "numberOfLeadingZeros", desc := "(I)I" } : Jvm.MethodName) jdk_33_method_47_code (2 : Nat) (Option.some Jvm.ClassFile.FieldType.int), Jvm.Cond.code ({ cls := "com/example/keystead/keystead/Divisor", name := "quotient", desc := "(J)J" } : Jvm.MethodName) prog_20_method_2_code (3 : Nat) (Option.some Jvm.ClassFile.FieldType.long)]
set_option maxRecDepth 65536 in
theorem codes_eq : words1.filter isCode = codes1 := rfl
theorem w_codes : ∀ c ∈ words1.filter isCode, c.before args0 about1 = true := by
  rw [codes_eq]
  intro c hc
  simp only [codes1, List.mem_cons, List.not_mem_nil, or_false] at hc
  rcases hc with rfl | rfl | rfl | rfl | rfl | rfl | rfl
  · exact w_c0
  · exact w_c1
  · exact w_c2
  · exact w_c3
  · exact w_c4
  · exact w_c5
  · exact w_c6
set_option maxRecDepth 65536 in
theorem w_t1 : (words1.take 24).all (fun c => isCode c || c.before args0 about1) = true := by decide +kernel
set_option maxRecDepth 65536 in
theorem w_t2 : (words1.drop 24).all (fun c => isCode c || c.before args0 about1) = true := by decide +kernel
theorem w_tables : (allAtoms (Jvm.Cond.code x code maxLocals ret :: tables_1)).before args0 about1 = true := by
  rw [allAtoms_all]
  show words1.all (fun c => c.before args0 about1) = true
  refine all_split ?_ w_codes
  rw [← List.take_append_drop 24 words1, List.all_append, w_t1, w_t2]
  rfl
set_option maxRecDepth 65536 in
theorem w_case : (Jvm.Cond.and given_1 narrow_1).before args0 about1 = true := by decide +kernel
theorem w_applies : (headSpec (Jvm.Cond.code x code maxLocals ret :: tables_1) room_1).applies x e0.platform about1 = true :=
  (Spec.applies_iff w_frames).mpr ⟨w_running, w_runnable, w_alone, w_named, w_hears, w_ripe, w_room, w_tables⟩
theorem atStart : AtStart classFile x code maxLocals ret World_1 tables_1 room_1 Calls_1 rest_1 Pre_1 launch0 p0 e0 about1 theMethod args0 below0 :=
  ⟨lists_1, trivial, launch0.admits_env _ _ _, launch0.least_env, fairChoices_fair.cas, fairChoices_fair.clock, w_frames, w_args, w_heap, w_applies, trivial, trivial, w_case⟩
end start1
theorem witness_1 : WitnessClaimed_1 := ⟨start1.p0, start1.e0, start1.about1, start1.theMethod, start1.args0, start1.below0, start1.atStart⟩
end Jvm.Pilot.@@N@@
