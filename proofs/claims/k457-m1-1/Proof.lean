import JvmDerived
import JvmDerived.Pilot.@@N@@Statement
import JvmDerived.Pilot.@@N@@Code
set_option linter.unusedVariables false
set_option linter.unusedSimpArgs false
@@BLOCK:NumsL.lean.txt@@
namespace Jvm.RoadKit
open Sem ClassFile Op Lib Jvm.Stand Jvm.Free Jvm.LawKit
section New
variable {p : Program} {l : Launch} {e : Env} {R : Room} {s : State} {m : MethodId} {args : Array Value} {below : List Frame} {meth : Method} {c : Code} {T : State} {locs : List Loc} {cells slots : Nat}
theorem retI (X : Stand p l e R s m args below meth c T locs cells slots) (hx : p.tables.exec = Jvm.exec) {pc : Nat} {Ls : Array Slot} {z : Int32} {rest : List Value} (hret : meth.sig.returnType = some .int) (hd : decode c.code pc = .ok (.ireturn, 1)) {fs : List Frame}
    (hl : ∀ (f : JFrame) (acts : List Action), f.method = m → f.locked = none → f.entered = [] → (doReturn e (T.setTop f) acts (some (.int z))).1 = T.setFrames fs) : Steps p.tables e below (T.setTop (mkF m pc Ls (.int z :: rest))) (T.setFrames fs) := by
  have hm' : T.vm.method? m = some meth := X.method'
  have hn : narrow .int (.int z) = .int z := rfl
  show Steps p.tables e below (T.setTop { method := m, pc := pc, locals := Ls, stack := _ :: rest, locked := none }) _
  jvm_step X.here [X.here.top, hx, hd, hm', hret, hn]
  first | (intro acts; rw [hl _ acts rfl rfl rfl]) | rw [hl _ _ rfl rfl rfl]
  exact Steps.refl _
/-- the run from A comes to a return of which F says the value, the heap and the written places -/
def own_Goes (p : Program) (e : Env) (below : List Frame) (s : State) (F : Option Value → Heap → List Loc → Prop) (k n : Nat) (A : State) : Prop :=
  ∃ s₂ o, Steps p.tables e below A s₂ ∧ s₂.status = .running ∧ Ended s₂ below o ∧ ∃ v L, o = .returned v ∧ F v s₂.heap L ∧ FrameEnd s o s₂ L k n
variable {F : Option Value → Heap → List Loc → Prop} {k n : Nat}
theorem own_Goes.step {A B : State} (h : ∀ t, Steps p.tables e below B t → Steps p.tables e below A t) (g : own_Goes p e below s F k n B) : own_Goes p e below s F k n A := by
  obtain ⟨s₂, o, h1, h2⟩ := g
  exact ⟨s₂, o, h _ h1, h2⟩
theorem own_endI (X : Stand p l e R s m args below meth c T locs cells slots) (hx : p.tables.exec = Jvm.exec) (hlk : meth.locks = false) {pc : Nat} {Ls : Array Slot} {z : Int32} {rest : List Value} (hret : meth.sig.returnType = some .int) (hd : decode c.code pc = .ok (.ireturn, 1)) (hF : F (some (.int z)) T.heap locs) (hk : cells ≤ k) (hn : slots ≤ n) :
    own_Goes p e below s F k n (T.setTop (mkF m pc Ls (.int z :: rest))) := by
  obtain ⟨fs, hr, hrun, hended, hW, hsame⟩ := X.leave (v := some (.int z)) (fun h => by rw [hret] at h; cases h) hlk
  exact ⟨_, _, retI X hx hret hd hr, hrun, hended, _, _, rfl, hF, ⟨_, rfl⟩, hW, hsame.mono hk hn⟩
theorem own_endN (X : Stand p l e R s m args below meth c T locs cells slots) (hx : p.tables.exec = Jvm.exec) (hlk : meth.locks = false) {pc : Nat} {Ls : Array Slot} {z : Int32} {t : FieldType} {rest : List Value} (hret : meth.sig.returnType = some t) (ht : t = .boolean ∨ t = .byte ∨ t = .char ∨ t = .short) (hd : decode c.code pc = .ok (.ireturn, 1)) (hF : F (some (.int (nar t z))) T.heap locs) (hk : cells ≤ k) (hn : slots ≤ n) :
    own_Goes p e below s F k n (T.setTop (mkF m pc Ls (.int z :: rest))) := by
  obtain ⟨fs, hr, hrun, hended, hW, hsame⟩ := X.leave (v := some (.int (nar t z))) (fun h => by rw [hret] at h; cases h) hlk
  exact ⟨_, _, retN X hx hret ht hd hr, hrun, hended, _, _, rfl, hF, ⟨_, rfl⟩, hW, hsame.mono hk hn⟩
theorem own_endJ (X : Stand p l e R s m args below meth c T locs cells slots) (hx : p.tables.exec = Jvm.exec) (hlk : meth.locks = false) {pc : Nat} {Ls : Array Slot} {z : Int64} (hret : meth.sig.returnType = some .long) (hd : decode c.code pc = .ok (.lreturn, 1)) (hF : F (some (.long z)) T.heap locs) (hk : cells ≤ k) (hn : slots ≤ n) :
    own_Goes p e below s F k n (T.setTop (mkF m pc Ls [.long z])) := by
  obtain ⟨fs, hr, hrun, hended, hW, hsame⟩ := X.leave (v := some (.long z)) (fun h => by rw [hret] at h; cases h) hlk
  exact ⟨_, _, X.lreturnOut hx hret hd hr, hrun, hended, _, _, rfl, hF, ⟨_, rfl⟩, hW, hsame.mono hk hn⟩
theorem own_endV (X : Stand p l e R s m args below meth c T locs cells slots) (hx : p.tables.exec = Jvm.exec) (hlk : meth.locks = false) {pc : Nat} {Ls : Array Slot} (hret : meth.sig.returnType = none) (hd : decode c.code pc = .ok (.return_, 1)) (hF : F none T.heap locs) (hk : cells ≤ k) (hn : slots ≤ n) :
    own_Goes p e below s F k n (T.setTop (mkF m pc Ls [])) := by
  obtain ⟨fs, hr, hrun, hended, hW, hsame⟩ := X.leave (v := none) (fun _ => rfl) hlk
  exact ⟨_, _, X.returnOut hx hret hd hr, hrun, hended, _, _, rfl, hF, ⟨_, rfl⟩, hW, hsame.mono hk hn⟩
theorem own_endA (X : Stand p l e R s m args below meth c T locs cells slots) (hx : p.tables.exec = Jvm.exec) (hlk : meth.locks = false) {pc : Nat} {Ls : Array Slot} {w : Value} {t : FieldType} (hw : w.isRef = true) (hret : meth.sig.returnType = some t) (ht : t.isReference = true) (hd : decode c.code pc = .ok (.areturn, 1)) (hF : F (some w) T.heap locs) (hk : cells ≤ k) (hn : slots ≤ n) :
    own_Goes p e below s F k n (T.setTop (mkF m pc Ls [w])) := by
  obtain ⟨fs, hr, hrun, hended, hW, hsame⟩ := X.leave (v := some w) (fun h => by rw [hret] at h; cases h) hlk
  exact ⟨_, _, X.areturnOut hx hw hret ht hd hr, hrun, hended, _, _, rfl, hF, ⟨_, rfl⟩, hW, hsame.mono hk hn⟩
theorem own_lrem (x y : Int64) : x - x / y * y = x % y := by
  refine Int64.toInt_inj.mp ?_
  rw [Jvm.Kit.i64_rem, Int64.toInt_mod]
theorem own_lremM {g : JFrame} {target : State} (X : Stand p l e R s m args below meth c T locs cells slots) (hx : p.tables.exec = Jvm.exec) (hg : g.method = m) {x y : Int64} {rest : List Value} (hd : decode c.code g.pc = .ok (.lrem, 1)) (hs : g.stack = .long y :: .long x :: rest) (hy : y ≠ 0)
    (hr : Steps p.tables e below (T.setTop { g with pc := g.pc + 1, stack := .long (x % y) :: rest }) target) : Steps p.tables e below (T.setTop g) target :=
  XT.lrem X.here hx hg hd hs hy (by rw [own_lrem]; exact hr)
/-- the three calls, by a contract in this family, carried forward -/
theorem own_stat {Z : State} {a0 : Array Value} {h : Heap} (X : Stand p l e R s m args below meth c T locs cells slots) (hx : p.tables.exec = Jvm.exec) (hZ : Z.Warmed39 s.vm) (eT : T.heap = h) {own : String} {index : Nat} {y : MethodName} {bytes : ByteArray} {maxL : Nat} {ret : Option FieldType} {rm : Room} {W : Nat} {argsL rest : List Value} {Q : Option Value → Heap → List Loc → Prop}
    (hown : s.vm.findClass own = some m.cls) (wl : (Cond.methodLink own index y).before a0 Z = true) (wst : (Cond.static y).before a0 Z = true) (wi : (Cond.initialized y.cls).before a0 Z = true) (wc : (Cond.code y bytes maxL ret).before a0 Z = true) (hy : y.cls ≠ "java/lang/invoke/MethodHandle" ∧ y.cls ≠ "java/lang/invoke/VarHandle")
    (hM : MetFree l y (head1 [Cond.code y bytes maxL ret] rm) (fun a U => a = argsL.toArray ∧ Z.Warmed39 U.vm ∧ U.heap = h) (fun _ _ _ _ _ => True) (fun _ U o U' => ∃ w L, o = .returned w ∧ Q w U'.heap L ∧ FrameEnd U o U' L rm.cells rm.slots))
    (hf : rm.frames + 1 ≤ R.frames) (hl : W + (maxL + 11) + rm.locals ≤ R.locals) (hcells : cells + rm.cells ≤ R.cells) (hslots : slots + rm.slots ≤ R.slots)
    {g : JFrame} (hg : g.method = m) (hsize : g.locals.size = c.maxLocals) (hlen : ∀ sig, parseMethodDescriptor y.desc = some sig → argsL.length = sig.parameters.length) (hstack : g.stack = argsL.reverse ++ rest) (hW : 2 * g.monitorRoom + (rest.map fun v => v.category).sum ≤ W) (hdg : decode c.code g.pc = .ok (.invokestatic index, 3)) :
    ∃ w T' L, Q w T'.heap L ∧ Stand p l e R s m args below meth c T' (locs ++ L) (cells + rm.cells) (slots + rm.slots) ∧ ∀ t, Steps p.tables e below (T'.setTop { g with pc := g.pc + 3, stack := w.toList ++ rest }) t → Steps p.tables e below (T.setTop g) t := by
  have hB := backOf (R := R) (p := p) (e := e) (below := below) (args := args) (len := 3) (W := W) (Q := Q) hM hZ wc wi hf hl
  obtain ⟨w, vm₁, ⟨U, Lc, k1, n1⟩, -, X', ⟨L, hQ, hL, hC, hS⟩, st⟩ := Jvm.LawKit.callS X hx (y := y) hown (mvT hZ wl) (mvT hZ wst) (mvT hZ wi) (mvT hZ wc) hy hB (g := g) hg hsize hlen hstack hW hdg (fun _ _ => ⟨rfl, eT, hcells, hslots⟩)
  dsimp only [Pt.U, Pt.locs, Pt.cells, Pt.slots] at X' hQ hL hC hS st
  subst hL hC hS
  exact ⟨w, U, L, hQ, X', st⟩
theorem own_spec {Z : State} {a0 : Array Value} {h : Heap} (X : Stand p l e R s m args below meth c T locs cells slots) (hx : p.tables.exec = Jvm.exec) (hZ : Z.Warmed39 s.vm) (eT : T.heap = h) {own : String} {index : Nat} {y : MethodName} {bytes : ByteArray} {maxL : Nat} {rm : Room} {W : Nat} {a : Addr} {argsL rest : List Value} {Q : Option Value → Heap → List Loc → Prop}
    (hy1 : y.name = "<init>") (hown : s.vm.findClass own = some m.cls) (wl : (Cond.methodLink own index y).before a0 Z = true) (wst : (Cond.instanceMethod y).before a0 Z = true) (wi : (Cond.initialized y.cls).before a0 Z = true) (wc : (Cond.code y bytes maxL none).before a0 Z = true) (hy : y.cls ≠ "java/lang/invoke/MethodHandle" ∧ y.cls ≠ "java/lang/invoke/VarHandle")
    (hM : MetFree l y (head1 [Cond.code y bytes maxL none] rm) (fun b U => b = (.ref a :: argsL).toArray ∧ Z.Warmed39 U.vm ∧ U.heap = h) (fun _ _ _ _ _ => True) (fun _ U o U' => ∃ w L, o = .returned w ∧ Q w U'.heap L ∧ FrameEnd U o U' L rm.cells rm.slots))
    (hf : rm.frames + 1 ≤ R.frames) (hl : W + (maxL + 11) + rm.locals ≤ R.locals) (hcells : cells + rm.cells ≤ R.cells) (hslots : slots + rm.slots ≤ R.slots)
    {g : JFrame} (hg : g.method = m) (hsize : g.locals.size = c.maxLocals) (hlen : ∀ sig, parseMethodDescriptor y.desc = some sig → argsL.length = sig.parameters.length) (hstack : g.stack = argsL.reverse ++ .ref a :: rest) (hW : 2 * g.monitorRoom + (rest.map fun v => v.category).sum ≤ W) (hdg : decode c.code g.pc = .ok (.invokespecial index, 3)) :
    ∃ w T' L, Q w T'.heap L ∧ Stand p l e R s m args below meth c T' (locs ++ L) (cells + rm.cells) (slots + rm.slots) ∧ ∀ t, Steps p.tables e below (T'.setTop { g with pc := g.pc + 3, stack := w.toList ++ rest }) t → Steps p.tables e below (T.setTop g) t := by
  have hB := backOf (R := R) (p := p) (e := e) (below := below) (args := args) (len := 3) (W := W) (Q := Q) hM hZ wc wi hf hl
  obtain ⟨w, vm₁, ⟨U, Lc, k1, n1⟩, -, X', ⟨L, hQ, hL, hC, hS⟩, st⟩ := X.specialBack hx (y := y) hy1 hown (mvT hZ wl) (mvT hZ wst) (mvT hZ wc) hy hB (g := g) hg hsize (Steps.refl _) (a := a) hlen hstack hW hdg (fun _ _ => ⟨rfl, eT, hcells, hslots⟩)
  dsimp only [Pt.U, Pt.locs, Pt.cells, Pt.slots] at X' hQ hL hC hS st
  subst hL hC hS
  exact ⟨w, U, L, hQ, X', fun t k => st.trans k⟩
theorem own_virt {Z : State} {a0 : Array Value} {h : Heap} (X : Stand p l e R s m args below meth c T locs cells slots) (hx : p.tables.exec = Jvm.exec) (hZ : Z.Warmed39 s.vm) (eT : T.heap = h) {own C : String} {index : Nat} {y : MethodName} {bytes : ByteArray} {maxL : Nat} {ret : Option FieldType} {rm : Room} {W : Nat} {a : Addr} {argsL rest : List Value} {Q : Option Value → Heap → List Loc → Prop}
    (E : Exa Z h a C) (hown : s.vm.findClass own = some m.cls) (wl : (Cond.methodLink own index y).before a0 Z = true) (wd : (Cond.declares y).before a0 Z = true) (ws : (Cond.selects C y y).before a0 Z = true) (wst : (Cond.instanceMethod y).before a0 Z = true) (wi : (Cond.initialized y.cls).before a0 Z = true) (wc : (Cond.code y bytes maxL ret).before a0 Z = true) (hy : y.cls ≠ "java/lang/invoke/MethodHandle" ∧ y.cls ≠ "java/lang/invoke/VarHandle")
    (hM : MetFree l y (head1 [Cond.code y bytes maxL ret] rm) (fun b U => b = (.ref a :: argsL).toArray ∧ Z.Warmed39 U.vm ∧ U.heap = h) (fun _ _ _ _ _ => True) (fun _ U o U' => ∃ w L, o = .returned w ∧ Q w U'.heap L ∧ FrameEnd U o U' L rm.cells rm.slots))
    (hf : rm.frames + 1 ≤ R.frames) (hl : W + (maxL + 11) + rm.locals ≤ R.locals) (hcells : cells + rm.cells ≤ R.cells) (hslots : slots + rm.slots ≤ R.slots)
    {g : JFrame} (hg : g.method = m) (hsize : g.locals.size = c.maxLocals) (hlen : ∀ sig, parseMethodDescriptor y.desc = some sig → argsL.length = sig.parameters.length) (hstack : g.stack = argsL.reverse ++ .ref a :: rest) (hW : 2 * g.monitorRoom + (rest.map fun v => v.category).sum ≤ W) (hdg : decode c.code g.pc = .ok (.invokevirtual index, 3)) :
    ∃ w T' L, Q w T'.heap L ∧ Stand p l e R s m args below meth c T' (locs ++ L) (cells + rm.cells) (slots + rm.slots) ∧ ∀ t, Steps p.tables e below (T'.setTop { g with pc := g.pc + 3, stack := w.toList ++ rest }) t → Steps p.tables e below (T.setTop g) t := by
  have hB := backOf (R := R) (p := p) (e := e) (below := below) (args := args) (len := 3) (W := W) (Q := Q) hM hZ wc wi hf hl
  obtain ⟨cq, kq, qa, qb, qc⟩ := isOf hZ eT E
  obtain ⟨w, vm₁, ⟨U, Lc, k1, n1⟩, -, X', ⟨L, hQ, hL, hC, hS⟩, st⟩ := X.virtualBack hx (y := y) (z := y) hown (mvT hZ wl) (mvT hZ wd) (notFace_of_selects (args := #[]) (mvT hZ ws)) (mvT hZ ws) (mvT hZ wst) hy hB qa qc (g := g) hg hsize (Steps.refl _) hlen hstack hW hdg (fun _ _ => ⟨rfl, eT, hcells, hslots⟩)
  dsimp only [Pt.U, Pt.locs, Pt.cells, Pt.slots] at X' hQ hL hC hS st
  subst hL hC hS
  exact ⟨w, U, L, hQ, X', fun t k => st.trans k⟩
/-- a call that left nothing behind -/
theorem own_clean {h : Heap} {w v : Option Value} {T' : State} {L : List Loc} {k0 n0 : Nat} (q : w = v ∧ L = [] ∧ T'.heap = h) (X : Stand p l e R s m args below meth c T' (locs ++ L) (cells + k0) (slots + n0)) (hk : k0 = 0) (hn : n0 = 0) : T'.heap = h ∧ Stand p l e R s m args below meth c T' locs cells slots := by
  obtain ⟨-, rfl, hh⟩ := q
  subst hk hn
  rw [List.append_nil] at X
  exact ⟨hh, X⟩
theorem own_nin {a b : Addr} (q : b ≠ a) : b ∉ [a] := fun h => q (List.mem_singleton.mp h)
theorem own_kt {h0 : Heap} {ws : List Addr} {a : Addr} (q : a ∈ ws ∨ h0.size ≤ a) : ∀ x ∈ [a], x ∈ ws ∨ h0.size ≤ x := fun x hx => by
  cases List.mem_singleton.mp hx; exact q
end New
end Jvm.RoadKit
namespace Jvm.Pilot.@@N@@
open Jvm Jvm.ClassFile Sem Op Lib Jvm.Free Jvm.Stand Jvm.LawKit Jvm.RoadKit Bundle Jvm.Pilot.@@N@@.Jvm.D
/-! plain facts on ints and longs -/
theorem own_char16 (u : UInt16) : (u.toUInt32.toInt32).toInt = u.toNat := by
  have h := u.toNat_lt
  show BitVec.toInt u.toUInt32.toBitVec = _
  rw [BitVec.toInt_eq_toNat_of_lt (by simp; omega)]
  simp
theorem own_char (y : Int32) : 0 ≤ (y.toUInt32.toUInt16.toUInt32.toInt32).toInt ∧ (y.toUInt32.toUInt16.toUInt32.toInt32).toInt < 65536 := by
  rw [own_char16]
  have h := y.toUInt32.toUInt16.toNat_lt
  omega
theorem own_fin32 {P : Int32 → Prop} (n : Nat) (h : ∀ k : Fin n, P (Int32.ofNat k)) (c : Int32) (h0 : 0 ≤ c.toInt) (h1 : c.toInt < n) : P c := by
  have e : c = Int32.ofNat c.toInt.toNat := by
    apply Int32.toInt_inj.mp
    have hb := c.toInt_lt
    rw [Int32.toInt_ofNat_of_lt (by omega)]
    omega
  rw [e]
  exact h ⟨c.toInt.toNat, by omega⟩
theorem own_lt32 (x y : Int32) : (x < y) ↔ x.toInt < y.toInt := Int32.lt_iff_toInt_lt
theorem own_eq32 (x y : Int32) : (x = y) ↔ x.toInt = y.toInt := Int32.toInt_inj.symm
theorem own_lt64 (x y : Int64) : (x < y) ↔ x.toInt < y.toInt := Int64.lt_iff_toInt_lt
theorem own_eq64 (x y : Int64) : (x = y) ↔ x.toInt = y.toInt := Int64.toInt_inj.symm
theorem d1_0 : decode prog_24_method_2_code 0 = .ok (.ldc2_w 79, 3) := by decide +kernel
theorem d1_3 : decode prog_24_method_2_code 3 = .ok (.lload_n 2, 1) := by decide +kernel
theorem d1_4 : decode prog_24_method_2_code 4 = .ok (.ldc2_w 81, 3) := by decide +kernel
theorem d1_7 : decode prog_24_method_2_code 7 = .ok (.lload_n 0, 1) := by decide +kernel
theorem d1_8 : decode prog_24_method_2_code 8 = .ok (.lmul, 1) := by decide +kernel
theorem d1_9 : decode prog_24_method_2_code 9 = .ok (.ladd, 1) := by decide +kernel
theorem d1_10 : decode prog_24_method_2_code 10 = .ok (.lmul, 1) := by decide +kernel
theorem d1_11 : decode prog_24_method_2_code 11 = .ok (.ldc2_w 83, 3) := by decide +kernel
theorem d1_14 : decode prog_24_method_2_code 14 = .ok (.ladd, 1) := by decide +kernel
theorem d1_15 : decode prog_24_method_2_code 15 = .ok (.lstore 4, 2) := by decide +kernel
theorem d1_17 : decode prog_24_method_2_code 17 = .ok (.lload 4, 2) := by decide +kernel
theorem d1_19 : decode prog_24_method_2_code 19 = .ok (.ldc2_w 85, 3) := by decide +kernel
theorem d1_22 : decode prog_24_method_2_code 22 = .ok (.ladd, 1) := by decide +kernel
theorem d1_23 : decode prog_24_method_2_code 23 = .ok (.lconst 1, 1) := by decide +kernel
theorem d1_24 : decode prog_24_method_2_code 24 = .ok (.lsub, 1) := by decide +kernel
theorem d1_25 : decode prog_24_method_2_code 25 = .ok (.ldc2_w 85, 3) := by decide +kernel
theorem d1_28 : decode prog_24_method_2_code 28 = .ok (.ldiv, 1) := by decide +kernel
theorem d1_29 : decode prog_24_method_2_code 29 = .ok (.ldc2_w 85, 3) := by decide +kernel
theorem d1_32 : decode prog_24_method_2_code 32 = .ok (.lmul, 1) := by decide +kernel
theorem d1_33 : decode prog_24_method_2_code 33 = .ok (.lreturn, 1) := by decide +kernel
theorem pn_1 : plainName "com/example/keystead/keystead/DumpWriter" = true := by first | (simp [plainName, overriddenIn]; done) | decide +kernel
theorem pd_1 : parseMethodDescriptor "(JJ)J" = some ⟨[.long, .long], (some .long)⟩ := by decide +kernel
theorem ef_1 (m : MethodId) (x0 : Int64) (x1 : Int64) : entryFrame m #[(.long x0), (.long x1)] 6 = mkF m 0 #[.val (.long x0), .second, .val (.long x1), .second, .unset, .unset] [] := by first | (simp [entryFrame, mkF, argsToLocals, Value.category]; done) | rfl
def own_f1_1 (x0 : Int64) (x1 : Int64) : Int64 := (((4 : Int64) * (x1 + ((12 : Int64) * x0))) + (1048576 : Int64))
def own_f1 (x0 : Int64) (x1 : Int64) : Int64 := (((((own_f1_1 x0 x1) + (4096 : Int64)) - (1 : Int64)) / (4096 : Int64)) * (4096 : Int64))
def own_F1 (Z : State) (x0 : Int64) (x1 : Int64)  (h0 : Heap) (v : Option Value) (h : Heap) (L : List Loc) : Prop := v = some (.long (own_f1 x0 x1)) ∧ L = [] ∧ h = h0
set_option maxRecDepth 65536 in
set_option maxHeartbeats 40000000 in
theorem own_m1 (l : Launch) (Z : State) (a0 : Array Value) (hw : ∀ d ∈ tables_1, d.before a0 Z = true) (ws : List Jvm.Cond) (x0 : Int64) (x1 : Int64)  (h0 : Heap)   :
    MetFree l (⟨"com/example/keystead/keystead/DumpWriter", "mapSize", "(JJ)J"⟩ : MethodName) (head1 (Jvm.Cond.code (⟨"com/example/keystead/keystead/DumpWriter", "mapSize", "(JJ)J"⟩ : MethodName) prog_24_method_2_code 6 (some .long) :: ws) ({ frames := 0, cells := 0, slots := 0, locals := 0 } : Room)) (fun a U => a = #[(.long x0), (.long x1)] ∧ Z.Warmed39 U.vm ∧ U.heap = h0) (fun _ _ _ _ _ => True) (fun _ U o U' => ∃ v L, o = .returned v ∧ own_F1 Z x0 x1 h0 v U'.heap L ∧ FrameEnd U o U' L ({ frames := 0, cells := 0, slots := 0, locals := 0 } : Room).cells ({ frames := 0, cells := 0, slots := 0, locals := 0 } : Room).slots) := by
  refine MetFree.of_bodySF (plainFor_of_name pn_1) hisR ?_
  intro p e s m args below meth c s₁ Bd hml0 hP hK
  obtain ⟨rfl, hZ, hh⟩ := hP
  have hx := Bd.exec
  have hby := Bd.bytes
  have hml : c.maxLocals = 6 := hml0
  have hown : s.vm.findClass "com/example/keystead/keystead/DumpWriter" = some m.cls := findClass_of_methodNamed Bd.named
  have hnm := (name_of_methodNamed Bd.named Bd.method).1
  have X0 : Stand p l e ({ frames := 0, cells := 0, slots := 0, locals := 0 } : Room) s m #[(.long x0), (.long x1)] below meth c s₁ [] 0 0 := Stand.of_body Bd
  have e0 : s₁.heap = h0 := by rw [← hh, Bd.state]; rfl
  have hgo : own_Goes p e below s (own_F1 Z x0 x1 h0) 0 0 (s₁.setTop (mkF m 0 #[.val (.long x0), .second, .val (.long x1), .second, .unset, .unset] [])) := by
    refine own_Goes.step (fun t k => X0.ldc2J hx hown (mvT hZ (hw _ (List.mem_of_getElem? (i := 6) rfl))) rfl (hb hby d1_0) k) ?_
    show own_Goes p e below s (own_F1 Z x0 x1 h0) 0 0 (s₁.setTop (mkF m 3 #[.val (.long x0), .second, .val (.long x1), .second, .unset, .unset] [(.long (4 : Int64))]))
    refine own_Goes.step (fun t k => XT.lloadN X0.here hx rfl (hb hby d1_3) rfl k) ?_
    show own_Goes p e below s (own_F1 Z x0 x1 h0) 0 0 (s₁.setTop (mkF m 4 #[.val (.long x0), .second, .val (.long x1), .second, .unset, .unset] [(.long x1), (.long (4 : Int64))]))
    refine own_Goes.step (fun t k => X0.ldc2J hx hown (mvT hZ (hw _ (List.mem_of_getElem? (i := 7) rfl))) rfl (hb hby d1_4) k) ?_
    show own_Goes p e below s (own_F1 Z x0 x1 h0) 0 0 (s₁.setTop (mkF m 7 #[.val (.long x0), .second, .val (.long x1), .second, .unset, .unset] [(.long (12 : Int64)), (.long x1), (.long (4 : Int64))]))
    refine own_Goes.step (fun t k => XT.lloadN X0.here hx rfl (hb hby d1_7) rfl k) ?_
    show own_Goes p e below s (own_F1 Z x0 x1 h0) 0 0 (s₁.setTop (mkF m 8 #[.val (.long x0), .second, .val (.long x1), .second, .unset, .unset] [(.long x0), (.long (12 : Int64)), (.long x1), (.long (4 : Int64))]))
    refine own_Goes.step (fun t k => XT.lmul X0.here hx rfl (hb hby d1_8) rfl k) ?_
    show own_Goes p e below s (own_F1 Z x0 x1 h0) 0 0 (s₁.setTop (mkF m 9 #[.val (.long x0), .second, .val (.long x1), .second, .unset, .unset] [(.long ((12 : Int64) * x0)), (.long x1), (.long (4 : Int64))]))
    refine own_Goes.step (fun t k => XT.ladd X0.here hx rfl (hb hby d1_9) rfl k) ?_
    show own_Goes p e below s (own_F1 Z x0 x1 h0) 0 0 (s₁.setTop (mkF m 10 #[.val (.long x0), .second, .val (.long x1), .second, .unset, .unset] [(.long (x1 + ((12 : Int64) * x0))), (.long (4 : Int64))]))
    refine own_Goes.step (fun t k => XT.lmul X0.here hx rfl (hb hby d1_10) rfl k) ?_
    show own_Goes p e below s (own_F1 Z x0 x1 h0) 0 0 (s₁.setTop (mkF m 11 #[.val (.long x0), .second, .val (.long x1), .second, .unset, .unset] [(.long ((4 : Int64) * (x1 + ((12 : Int64) * x0))))]))
    refine own_Goes.step (fun t k => X0.ldc2J hx hown (mvT hZ (hw _ (List.mem_of_getElem? (i := 8) rfl))) rfl (hb hby d1_11) k) ?_
    show own_Goes p e below s (own_F1 Z x0 x1 h0) 0 0 (s₁.setTop (mkF m 14 #[.val (.long x0), .second, .val (.long x1), .second, .unset, .unset] [(.long (1048576 : Int64)), (.long ((4 : Int64) * (x1 + ((12 : Int64) * x0))))]))
    refine own_Goes.step (fun t k => XT.ladd X0.here hx rfl (hb hby d1_14) rfl k) ?_
    show own_Goes p e below s (own_F1 Z x0 x1 h0) 0 0 (s₁.setTop (mkF m 15 #[.val (.long x0), .second, .val (.long x1), .second, .unset, .unset] [(.long (((4 : Int64) * (x1 + ((12 : Int64) * x0))) + (1048576 : Int64)))]))
    refine own_Goes.step (fun t k => XT.lstore X0.here hx rfl (hb hby d1_15) rfl (l' := #[.val (.long x0), .second, .val (.long x1), .second, .val (.long (own_f1_1 x0 x1)), .second]) rfl k) ?_
    show own_Goes p e below s (own_F1 Z x0 x1 h0) 0 0 (s₁.setTop (mkF m 17 #[.val (.long x0), .second, .val (.long x1), .second, .val (.long (own_f1_1 x0 x1)), .second] []))
    refine own_Goes.step (fun t k => XT.lload X0.here hx rfl (hb hby d1_17) rfl k) ?_
    show own_Goes p e below s (own_F1 Z x0 x1 h0) 0 0 (s₁.setTop (mkF m 19 #[.val (.long x0), .second, .val (.long x1), .second, .val (.long (own_f1_1 x0 x1)), .second] [(.long (own_f1_1 x0 x1))]))
    refine own_Goes.step (fun t k => X0.ldc2J hx hown (mvT hZ (hw _ (List.mem_of_getElem? (i := 9) rfl))) rfl (hb hby d1_19) k) ?_
    show own_Goes p e below s (own_F1 Z x0 x1 h0) 0 0 (s₁.setTop (mkF m 22 #[.val (.long x0), .second, .val (.long x1), .second, .val (.long (own_f1_1 x0 x1)), .second] [(.long (4096 : Int64)), (.long (own_f1_1 x0 x1))]))
    refine own_Goes.step (fun t k => XT.ladd X0.here hx rfl (hb hby d1_22) rfl k) ?_
    show own_Goes p e below s (own_F1 Z x0 x1 h0) 0 0 (s₁.setTop (mkF m 23 #[.val (.long x0), .second, .val (.long x1), .second, .val (.long (own_f1_1 x0 x1)), .second] [(.long ((own_f1_1 x0 x1) + (4096 : Int64)))]))
    refine own_Goes.step (fun t k => XT.lconstV X0.here hx rfl (1 : Int64) (hb hby d1_23) (by decide) k) ?_
    show own_Goes p e below s (own_F1 Z x0 x1 h0) 0 0 (s₁.setTop (mkF m 24 #[.val (.long x0), .second, .val (.long x1), .second, .val (.long (own_f1_1 x0 x1)), .second] [(.long (1 : Int64)), (.long ((own_f1_1 x0 x1) + (4096 : Int64)))]))
    refine own_Goes.step (fun t k => XT.lsub X0.here hx rfl (hb hby d1_24) rfl k) ?_
    show own_Goes p e below s (own_F1 Z x0 x1 h0) 0 0 (s₁.setTop (mkF m 25 #[.val (.long x0), .second, .val (.long x1), .second, .val (.long (own_f1_1 x0 x1)), .second] [(.long (((own_f1_1 x0 x1) + (4096 : Int64)) - (1 : Int64)))]))
    refine own_Goes.step (fun t k => X0.ldc2J hx hown (mvT hZ (hw _ (List.mem_of_getElem? (i := 9) rfl))) rfl (hb hby d1_25) k) ?_
    show own_Goes p e below s (own_F1 Z x0 x1 h0) 0 0 (s₁.setTop (mkF m 28 #[.val (.long x0), .second, .val (.long x1), .second, .val (.long (own_f1_1 x0 x1)), .second] [(.long (4096 : Int64)), (.long (((own_f1_1 x0 x1) + (4096 : Int64)) - (1 : Int64)))]))
    refine own_Goes.step (fun t k => XT.ldiv X0.here hx rfl (hb hby d1_28) rfl (by decide) k) ?_
    show own_Goes p e below s (own_F1 Z x0 x1 h0) 0 0 (s₁.setTop (mkF m 29 #[.val (.long x0), .second, .val (.long x1), .second, .val (.long (own_f1_1 x0 x1)), .second] [(.long ((((own_f1_1 x0 x1) + (4096 : Int64)) - (1 : Int64)) / (4096 : Int64)))]))
    refine own_Goes.step (fun t k => X0.ldc2J hx hown (mvT hZ (hw _ (List.mem_of_getElem? (i := 9) rfl))) rfl (hb hby d1_29) k) ?_
    show own_Goes p e below s (own_F1 Z x0 x1 h0) 0 0 (s₁.setTop (mkF m 32 #[.val (.long x0), .second, .val (.long x1), .second, .val (.long (own_f1_1 x0 x1)), .second] [(.long (4096 : Int64)), (.long ((((own_f1_1 x0 x1) + (4096 : Int64)) - (1 : Int64)) / (4096 : Int64)))]))
    refine own_Goes.step (fun t k => XT.lmul X0.here hx rfl (hb hby d1_32) rfl k) ?_
    show own_Goes p e below s (own_F1 Z x0 x1 h0) 0 0 (s₁.setTop (mkF m 33 #[.val (.long x0), .second, .val (.long x1), .second, .val (.long (own_f1_1 x0 x1)), .second] [(.long (((((own_f1_1 x0 x1) + (4096 : Int64)) - (1 : Int64)) / (4096 : Int64)) * (4096 : Int64)))]))
    exact own_endJ X0 hx Bd.notSynchronized Bd.returns (hb hby d1_33) ⟨(congrArg (fun z => some (Value.long z)) (show (((((own_f1_1 x0 x1) + (4096 : Int64)) - (1 : Int64)) / (4096 : Int64)) * (4096 : Int64)) = own_f1 x0 x1 from by simp only [own_f1])), rfl, e0⟩ (by decide) (by decide)
  obtain ⟨t2, o2, q1, q2, q3, q4⟩ := hgo
  exact ⟨t2, o2, castTop (ef_1 m x0 x1) q1, q2, q3, q4⟩
theorem pn_0 : plainName "com/example/keystead/keystead/DumpWriterMapSizePinLaw" = true := by first | (simp [plainName, overriddenIn]; done) | decide +kernel
theorem pd_0 : parseMethodDescriptor "(JJ)Z" = some ⟨[.long, .long], (some .boolean)⟩ := by decide +kernel
theorem ef_0 (m : MethodId) (x0 : Int64) (x1 : Int64) : entryFrame m #[(.long x0), (.long x1)] maxLocals = mkF m 0 #[.val (.long x0), .second, .val (.long x1), .second, .unset, .unset, .unset, .unset, .unset, .unset, .unset, .unset, .unset, .unset, .unset] [] := by first | (simp [entryFrame, mkF, argsToLocals, Value.category, maxLocals]; done) | rfl
def own_f0_1 (x0 : Int64) (x1 : Int64) : Int64 := (own_f1 (x0 &&& (72057594037927935 : Int64)) (x1 &&& (288230376151711743 : Int64)))
def own_f0_2 (x0 : Int64) (x1 : Int64) : Int64 := (((4 : Int64) * ((x1 &&& (288230376151711743 : Int64)) + ((12 : Int64) * (x0 &&& (72057594037927935 : Int64))))) + (1048576 : Int64))
def own_f0_3 (x0 : Int64) (x1 : Int64) : Int32 := (if ((own_f0_1 x0 x1) % (4096 : Int64)) = (0 : Int64) then (1 : Int32) else (0 : Int32))
def own_f0_4 (x0 : Int64) (x1 : Int64) : Int32 := (if (own_f0_1 x0 x1) < (own_f0_2 x0 x1) then (0 : Int32) else (1 : Int32))
def own_f0_5 (x0 : Int64) (x1 : Int64) : Int32 := (if ((own_f0_1 x0 x1) - (own_f0_2 x0 x1)) < (4096 : Int64) then (1 : Int32) else (0 : Int32))
def own_f0 (x0 : Int64) (x1 : Int64) : Int32 := (if (own_f0_3 x0 x1) = (0 : Int32) then (0 : Int32) else (if (own_f0_4 x0 x1) = (0 : Int32) then (0 : Int32) else (if (own_f0_5 x0 x1) = (0 : Int32) then (0 : Int32) else (1 : Int32))))
def own_F0 (Z : State) (x0 : Int64) (x1 : Int64)  (n0 : Nat) (h0 : Heap) (v : Option Value) (h : Heap) (L : List Loc) : Prop := v = some (.int (own_f0 x0 x1)) ∧ Fr n0 L
set_option maxRecDepth 65536 in
set_option maxHeartbeats 40000000 in
theorem own_m0 (l : Launch) (Z : State) (a0 : Array Value) (hw : ∀ d ∈ tables_1, d.before a0 Z = true) (ws : List Jvm.Cond) (x0 : Int64) (x1 : Int64)  (n0 : Nat) (h0 : Heap) (Z0 : n0 ≤ h0.size)   :
    MetFree l x (head1 (Jvm.Cond.code x code maxLocals ret :: ws) room_1) (fun a U => a = #[(.long x0), (.long x1)] ∧ Z.Warmed39 U.vm ∧ U.heap = h0) (fun _ _ _ _ _ => True) (fun _ U o U' => ∃ v L, o = .returned v ∧ own_F0 Z x0 x1 n0 h0 v U'.heap L ∧ FrameEnd U o U' L room_1.cells room_1.slots) := by
  refine MetFree.of_bodySF (plainFor_of_name pn_0) hisR ?_
  intro p e s m args below meth c s₁ Bd hml0 hP hK
  obtain ⟨rfl, hZ, hh⟩ := hP
  have hx := Bd.exec
  have hby := Bd.bytes
  have hml : c.maxLocals = 15 := hml0
  have hown : s.vm.findClass "com/example/keystead/keystead/DumpWriterMapSizePinLaw" = some m.cls := findClass_of_methodNamed Bd.named
  have hnm := (name_of_methodNamed Bd.named Bd.method).1
  have X0 : Stand p l e room_1 s m #[(.long x0), (.long x1)] below meth c s₁ [] 0 0 := Stand.of_body Bd
  have e0 : s₁.heap = h0 := by rw [← hh, Bd.state]; rfl
  have N0 := Fr.nil n0
  have K0 : Keep h0 h0 [] := Keep.refl h0 []
  have hgo : own_Goes p e below s (own_F0 Z x0 x1 n0 h0) room_1.cells room_1.slots (s₁.setTop (mkF m 0 #[.val (.long x0), .second, .val (.long x1), .second, .unset, .unset, .unset, .unset, .unset, .unset, .unset, .unset, .unset, .unset, .unset] [])) := by
    refine own_Goes.step (fun t k => XT.lloadN X0.here hx rfl (hb hby at_0) rfl k) ?_
    show own_Goes p e below s (own_F0 Z x0 x1 n0 h0) room_1.cells room_1.slots (s₁.setTop (mkF m 1 #[.val (.long x0), .second, .val (.long x1), .second, .unset, .unset, .unset, .unset, .unset, .unset, .unset, .unset, .unset, .unset, .unset] [(.long x0)]))
    refine own_Goes.step (fun t k => X0.ldc2J hx hown (mvT hZ (hw _ (List.mem_of_getElem? (i := 0) rfl))) rfl (hb hby at_1) k) ?_
    show own_Goes p e below s (own_F0 Z x0 x1 n0 h0) room_1.cells room_1.slots (s₁.setTop (mkF m 4 #[.val (.long x0), .second, .val (.long x1), .second, .unset, .unset, .unset, .unset, .unset, .unset, .unset, .unset, .unset, .unset, .unset] [(.long (72057594037927935 : Int64)), (.long x0)]))
    refine own_Goes.step (fun t k => XT.land X0.here hx rfl (hb hby at_4) rfl k) ?_
    show own_Goes p e below s (own_F0 Z x0 x1 n0 h0) room_1.cells room_1.slots (s₁.setTop (mkF m 5 #[.val (.long x0), .second, .val (.long x1), .second, .unset, .unset, .unset, .unset, .unset, .unset, .unset, .unset, .unset, .unset, .unset] [(.long (x0 &&& (72057594037927935 : Int64)))]))
    refine own_Goes.step (fun t k => XT.lstore X0.here hx rfl (hb hby at_5) rfl (l' := #[.val (.long x0), .second, .val (.long x1), .second, .val (.long (x0 &&& (72057594037927935 : Int64))), .second, .unset, .unset, .unset, .unset, .unset, .unset, .unset, .unset, .unset]) rfl k) ?_
    show own_Goes p e below s (own_F0 Z x0 x1 n0 h0) room_1.cells room_1.slots (s₁.setTop (mkF m 7 #[.val (.long x0), .second, .val (.long x1), .second, .val (.long (x0 &&& (72057594037927935 : Int64))), .second, .unset, .unset, .unset, .unset, .unset, .unset, .unset, .unset, .unset] []))
    refine own_Goes.step (fun t k => XT.lloadN X0.here hx rfl (hb hby at_7) rfl k) ?_
    show own_Goes p e below s (own_F0 Z x0 x1 n0 h0) room_1.cells room_1.slots (s₁.setTop (mkF m 8 #[.val (.long x0), .second, .val (.long x1), .second, .val (.long (x0 &&& (72057594037927935 : Int64))), .second, .unset, .unset, .unset, .unset, .unset, .unset, .unset, .unset, .unset] [(.long x1)]))
    refine own_Goes.step (fun t k => X0.ldc2J hx hown (mvT hZ (hw _ (List.mem_of_getElem? (i := 1) rfl))) rfl (hb hby at_8) k) ?_
    show own_Goes p e below s (own_F0 Z x0 x1 n0 h0) room_1.cells room_1.slots (s₁.setTop (mkF m 11 #[.val (.long x0), .second, .val (.long x1), .second, .val (.long (x0 &&& (72057594037927935 : Int64))), .second, .unset, .unset, .unset, .unset, .unset, .unset, .unset, .unset, .unset] [(.long (288230376151711743 : Int64)), (.long x1)]))
    refine own_Goes.step (fun t k => XT.land X0.here hx rfl (hb hby at_11) rfl k) ?_
    show own_Goes p e below s (own_F0 Z x0 x1 n0 h0) room_1.cells room_1.slots (s₁.setTop (mkF m 12 #[.val (.long x0), .second, .val (.long x1), .second, .val (.long (x0 &&& (72057594037927935 : Int64))), .second, .unset, .unset, .unset, .unset, .unset, .unset, .unset, .unset, .unset] [(.long (x1 &&& (288230376151711743 : Int64)))]))
    refine own_Goes.step (fun t k => XT.lstore X0.here hx rfl (hb hby at_12) rfl (l' := #[.val (.long x0), .second, .val (.long x1), .second, .val (.long (x0 &&& (72057594037927935 : Int64))), .second, .val (.long (x1 &&& (288230376151711743 : Int64))), .second, .unset, .unset, .unset, .unset, .unset, .unset, .unset]) rfl k) ?_
    show own_Goes p e below s (own_F0 Z x0 x1 n0 h0) room_1.cells room_1.slots (s₁.setTop (mkF m 14 #[.val (.long x0), .second, .val (.long x1), .second, .val (.long (x0 &&& (72057594037927935 : Int64))), .second, .val (.long (x1 &&& (288230376151711743 : Int64))), .second, .unset, .unset, .unset, .unset, .unset, .unset, .unset] []))
    refine own_Goes.step (fun t k => XT.lload X0.here hx rfl (hb hby at_14) rfl k) ?_
    show own_Goes p e below s (own_F0 Z x0 x1 n0 h0) room_1.cells room_1.slots (s₁.setTop (mkF m 16 #[.val (.long x0), .second, .val (.long x1), .second, .val (.long (x0 &&& (72057594037927935 : Int64))), .second, .val (.long (x1 &&& (288230376151711743 : Int64))), .second, .unset, .unset, .unset, .unset, .unset, .unset, .unset] [(.long (x0 &&& (72057594037927935 : Int64)))]))
    refine own_Goes.step (fun t k => XT.lload X0.here hx rfl (hb hby at_16) rfl k) ?_
    show own_Goes p e below s (own_F0 Z x0 x1 n0 h0) room_1.cells room_1.slots (s₁.setTop (mkF m 18 #[.val (.long x0), .second, .val (.long x1), .second, .val (.long (x0 &&& (72057594037927935 : Int64))), .second, .val (.long (x1 &&& (288230376151711743 : Int64))), .second, .unset, .unset, .unset, .unset, .unset, .unset, .unset] [(.long (x1 &&& (288230376151711743 : Int64))), (.long (x0 &&& (72057594037927935 : Int64)))]))
    obtain ⟨w1, T1, L1, q1, Y1, st1⟩ := own_stat X0 hx hZ e0 hown (hw _ (List.mem_of_getElem? (i := 2) rfl)) (hw _ (List.mem_of_getElem? (i := 3) rfl)) (hw _ (List.mem_of_getElem? (i := 4) rfl)) (hw _ (List.mem_of_getElem? (i := 5) rfl)) (by decide) (own_m1 l Z a0 hw [] (x0 &&& (72057594037927935 : Int64)) (x1 &&& (288230376151711743 : Int64)) h0 ) (by decide) (W := 0) (by decide) (by decide) (by decide) (g := (mkF m 18 #[.val (.long x0), .second, .val (.long x1), .second, .val (.long (x0 &&& (72057594037927935 : Int64))), .second, .val (.long (x1 &&& (288230376151711743 : Int64))), .second, .unset, .unset, .unset, .unset, .unset, .unset, .unset] [(.long (x1 &&& (288230376151711743 : Int64))), (.long (x0 &&& (72057594037927935 : Int64)))])) rfl (by rw [hml]; rfl) (argsL := [(.long (x0 &&& (72057594037927935 : Int64))), (.long (x1 &&& (288230376151711743 : Int64)))]) (rest := []) (lenOf pd_1 rfl) rfl (by show 2 * 0 + _ ≤ _; exact Nat.le_of_eq rfl) (hb hby at_18)
    obtain ⟨e1, X1⟩ := own_clean q1 Y1 rfl rfl
    obtain ⟨rfl, -, -⟩ := q1
    refine own_Goes.step st1 ?_
    show own_Goes p e below s (own_F0 Z x0 x1 n0 h0) room_1.cells room_1.slots (T1.setTop (mkF m 21 #[.val (.long x0), .second, .val (.long x1), .second, .val (.long (x0 &&& (72057594037927935 : Int64))), .second, .val (.long (x1 &&& (288230376151711743 : Int64))), .second, .unset, .unset, .unset, .unset, .unset, .unset, .unset] [(.long (own_f1 (x0 &&& (72057594037927935 : Int64)) (x1 &&& (288230376151711743 : Int64))))]))
    refine own_Goes.step (fun t k => XT.lstore X1.here hx rfl (hb hby at_21) rfl (l' := #[.val (.long x0), .second, .val (.long x1), .second, .val (.long (x0 &&& (72057594037927935 : Int64))), .second, .val (.long (x1 &&& (288230376151711743 : Int64))), .second, .val (.long (own_f0_1 x0 x1)), .second, .unset, .unset, .unset, .unset, .unset]) rfl k) ?_
    show own_Goes p e below s (own_F0 Z x0 x1 n0 h0) room_1.cells room_1.slots (T1.setTop (mkF m 23 #[.val (.long x0), .second, .val (.long x1), .second, .val (.long (x0 &&& (72057594037927935 : Int64))), .second, .val (.long (x1 &&& (288230376151711743 : Int64))), .second, .val (.long (own_f0_1 x0 x1)), .second, .unset, .unset, .unset, .unset, .unset] []))
    refine own_Goes.step (fun t k => X1.ldc2J hx hown (mvT hZ (hw _ (List.mem_of_getElem? (i := 10) rfl))) rfl (hb hby at_23) k) ?_
    show own_Goes p e below s (own_F0 Z x0 x1 n0 h0) room_1.cells room_1.slots (T1.setTop (mkF m 26 #[.val (.long x0), .second, .val (.long x1), .second, .val (.long (x0 &&& (72057594037927935 : Int64))), .second, .val (.long (x1 &&& (288230376151711743 : Int64))), .second, .val (.long (own_f0_1 x0 x1)), .second, .unset, .unset, .unset, .unset, .unset] [(.long (4 : Int64))]))
    refine own_Goes.step (fun t k => XT.lload X1.here hx rfl (hb hby at_26) rfl k) ?_
    show own_Goes p e below s (own_F0 Z x0 x1 n0 h0) room_1.cells room_1.slots (T1.setTop (mkF m 28 #[.val (.long x0), .second, .val (.long x1), .second, .val (.long (x0 &&& (72057594037927935 : Int64))), .second, .val (.long (x1 &&& (288230376151711743 : Int64))), .second, .val (.long (own_f0_1 x0 x1)), .second, .unset, .unset, .unset, .unset, .unset] [(.long (x1 &&& (288230376151711743 : Int64))), (.long (4 : Int64))]))
    refine own_Goes.step (fun t k => X1.ldc2J hx hown (mvT hZ (hw _ (List.mem_of_getElem? (i := 11) rfl))) rfl (hb hby at_28) k) ?_
    show own_Goes p e below s (own_F0 Z x0 x1 n0 h0) room_1.cells room_1.slots (T1.setTop (mkF m 31 #[.val (.long x0), .second, .val (.long x1), .second, .val (.long (x0 &&& (72057594037927935 : Int64))), .second, .val (.long (x1 &&& (288230376151711743 : Int64))), .second, .val (.long (own_f0_1 x0 x1)), .second, .unset, .unset, .unset, .unset, .unset] [(.long (12 : Int64)), (.long (x1 &&& (288230376151711743 : Int64))), (.long (4 : Int64))]))
    refine own_Goes.step (fun t k => XT.lload X1.here hx rfl (hb hby at_31) rfl k) ?_
    show own_Goes p e below s (own_F0 Z x0 x1 n0 h0) room_1.cells room_1.slots (T1.setTop (mkF m 33 #[.val (.long x0), .second, .val (.long x1), .second, .val (.long (x0 &&& (72057594037927935 : Int64))), .second, .val (.long (x1 &&& (288230376151711743 : Int64))), .second, .val (.long (own_f0_1 x0 x1)), .second, .unset, .unset, .unset, .unset, .unset] [(.long (x0 &&& (72057594037927935 : Int64))), (.long (12 : Int64)), (.long (x1 &&& (288230376151711743 : Int64))), (.long (4 : Int64))]))
    refine own_Goes.step (fun t k => XT.lmul X1.here hx rfl (hb hby at_33) rfl k) ?_
    show own_Goes p e below s (own_F0 Z x0 x1 n0 h0) room_1.cells room_1.slots (T1.setTop (mkF m 34 #[.val (.long x0), .second, .val (.long x1), .second, .val (.long (x0 &&& (72057594037927935 : Int64))), .second, .val (.long (x1 &&& (288230376151711743 : Int64))), .second, .val (.long (own_f0_1 x0 x1)), .second, .unset, .unset, .unset, .unset, .unset] [(.long ((12 : Int64) * (x0 &&& (72057594037927935 : Int64)))), (.long (x1 &&& (288230376151711743 : Int64))), (.long (4 : Int64))]))
    refine own_Goes.step (fun t k => XT.ladd X1.here hx rfl (hb hby at_34) rfl k) ?_
    show own_Goes p e below s (own_F0 Z x0 x1 n0 h0) room_1.cells room_1.slots (T1.setTop (mkF m 35 #[.val (.long x0), .second, .val (.long x1), .second, .val (.long (x0 &&& (72057594037927935 : Int64))), .second, .val (.long (x1 &&& (288230376151711743 : Int64))), .second, .val (.long (own_f0_1 x0 x1)), .second, .unset, .unset, .unset, .unset, .unset] [(.long ((x1 &&& (288230376151711743 : Int64)) + ((12 : Int64) * (x0 &&& (72057594037927935 : Int64))))), (.long (4 : Int64))]))
    refine own_Goes.step (fun t k => XT.lmul X1.here hx rfl (hb hby at_35) rfl k) ?_
    show own_Goes p e below s (own_F0 Z x0 x1 n0 h0) room_1.cells room_1.slots (T1.setTop (mkF m 36 #[.val (.long x0), .second, .val (.long x1), .second, .val (.long (x0 &&& (72057594037927935 : Int64))), .second, .val (.long (x1 &&& (288230376151711743 : Int64))), .second, .val (.long (own_f0_1 x0 x1)), .second, .unset, .unset, .unset, .unset, .unset] [(.long ((4 : Int64) * ((x1 &&& (288230376151711743 : Int64)) + ((12 : Int64) * (x0 &&& (72057594037927935 : Int64))))))]))
    refine own_Goes.step (fun t k => X1.ldc2J hx hown (mvT hZ (hw _ (List.mem_of_getElem? (i := 12) rfl))) rfl (hb hby at_36) k) ?_
    show own_Goes p e below s (own_F0 Z x0 x1 n0 h0) room_1.cells room_1.slots (T1.setTop (mkF m 39 #[.val (.long x0), .second, .val (.long x1), .second, .val (.long (x0 &&& (72057594037927935 : Int64))), .second, .val (.long (x1 &&& (288230376151711743 : Int64))), .second, .val (.long (own_f0_1 x0 x1)), .second, .unset, .unset, .unset, .unset, .unset] [(.long (1048576 : Int64)), (.long ((4 : Int64) * ((x1 &&& (288230376151711743 : Int64)) + ((12 : Int64) * (x0 &&& (72057594037927935 : Int64))))))]))
    refine own_Goes.step (fun t k => XT.ladd X1.here hx rfl (hb hby at_39) rfl k) ?_
    show own_Goes p e below s (own_F0 Z x0 x1 n0 h0) room_1.cells room_1.slots (T1.setTop (mkF m 40 #[.val (.long x0), .second, .val (.long x1), .second, .val (.long (x0 &&& (72057594037927935 : Int64))), .second, .val (.long (x1 &&& (288230376151711743 : Int64))), .second, .val (.long (own_f0_1 x0 x1)), .second, .unset, .unset, .unset, .unset, .unset] [(.long (((4 : Int64) * ((x1 &&& (288230376151711743 : Int64)) + ((12 : Int64) * (x0 &&& (72057594037927935 : Int64))))) + (1048576 : Int64)))]))
    refine own_Goes.step (fun t k => XT.lstore X1.here hx rfl (hb hby at_40) rfl (l' := #[.val (.long x0), .second, .val (.long x1), .second, .val (.long (x0 &&& (72057594037927935 : Int64))), .second, .val (.long (x1 &&& (288230376151711743 : Int64))), .second, .val (.long (own_f0_1 x0 x1)), .second, .val (.long (own_f0_2 x0 x1)), .second, .unset, .unset, .unset]) rfl k) ?_
    show own_Goes p e below s (own_F0 Z x0 x1 n0 h0) room_1.cells room_1.slots (T1.setTop (mkF m 42 #[.val (.long x0), .second, .val (.long x1), .second, .val (.long (x0 &&& (72057594037927935 : Int64))), .second, .val (.long (x1 &&& (288230376151711743 : Int64))), .second, .val (.long (own_f0_1 x0 x1)), .second, .val (.long (own_f0_2 x0 x1)), .second, .unset, .unset, .unset] []))
    refine own_Goes.step (fun t k => XT.lload X1.here hx rfl (hb hby at_42) rfl k) ?_
    show own_Goes p e below s (own_F0 Z x0 x1 n0 h0) room_1.cells room_1.slots (T1.setTop (mkF m 44 #[.val (.long x0), .second, .val (.long x1), .second, .val (.long (x0 &&& (72057594037927935 : Int64))), .second, .val (.long (x1 &&& (288230376151711743 : Int64))), .second, .val (.long (own_f0_1 x0 x1)), .second, .val (.long (own_f0_2 x0 x1)), .second, .unset, .unset, .unset] [(.long (own_f0_1 x0 x1))]))
    refine own_Goes.step (fun t k => X1.ldc2J hx hown (mvT hZ (hw _ (List.mem_of_getElem? (i := 13) rfl))) rfl (hb hby at_44) k) ?_
    show own_Goes p e below s (own_F0 Z x0 x1 n0 h0) room_1.cells room_1.slots (T1.setTop (mkF m 47 #[.val (.long x0), .second, .val (.long x1), .second, .val (.long (x0 &&& (72057594037927935 : Int64))), .second, .val (.long (x1 &&& (288230376151711743 : Int64))), .second, .val (.long (own_f0_1 x0 x1)), .second, .val (.long (own_f0_2 x0 x1)), .second, .unset, .unset, .unset] [(.long (4096 : Int64)), (.long (own_f0_1 x0 x1))]))
    refine own_Goes.step (fun t k => own_lremM X1 hx rfl (hb hby at_47) rfl (by decide) k) ?_
    show own_Goes p e below s (own_F0 Z x0 x1 n0 h0) room_1.cells room_1.slots (T1.setTop (mkF m 48 #[.val (.long x0), .second, .val (.long x1), .second, .val (.long (x0 &&& (72057594037927935 : Int64))), .second, .val (.long (x1 &&& (288230376151711743 : Int64))), .second, .val (.long (own_f0_1 x0 x1)), .second, .val (.long (own_f0_2 x0 x1)), .second, .unset, .unset, .unset] [(.long ((own_f0_1 x0 x1) % (4096 : Int64)))]))
    refine own_Goes.step (fun t k => XT.lconstV X1.here hx rfl (0 : Int64) (hb hby at_48) (by decide) k) ?_
    show own_Goes p e below s (own_F0 Z x0 x1 n0 h0) room_1.cells room_1.slots (T1.setTop (mkF m 49 #[.val (.long x0), .second, .val (.long x1), .second, .val (.long (x0 &&& (72057594037927935 : Int64))), .second, .val (.long (x1 &&& (288230376151711743 : Int64))), .second, .val (.long (own_f0_1 x0 x1)), .second, .val (.long (own_f0_2 x0 x1)), .second, .unset, .unset, .unset] [(.long (0 : Int64)), (.long ((own_f0_1 x0 x1) % (4096 : Int64)))]))
    refine own_Goes.step (fun t k => XT.lcmp X1.here hx rfl (hb hby at_49) rfl k) ?_
    show own_Goes p e below s (own_F0 Z x0 x1 n0 h0) room_1.cells room_1.slots (T1.setTop (mkF m 50 #[.val (.long x0), .second, .val (.long x1), .second, .val (.long (x0 &&& (72057594037927935 : Int64))), .second, .val (.long (x1 &&& (288230376151711743 : Int64))), .second, .val (.long (own_f0_1 x0 x1)), .second, .val (.long (own_f0_2 x0 x1)), .second, .unset, .unset, .unset] [(.int (XT.cmpL ((own_f0_1 x0 x1) % (4096 : Int64)) (0 : Int64)))]))
    have J10 : own_Goes p e below s (own_F0 Z x0 x1 n0 h0) room_1.cells room_1.slots (T1.setTop (mkF m 58 #[.val (.long x0), .second, .val (.long x1), .second, .val (.long (x0 &&& (72057594037927935 : Int64))), .second, .val (.long (x1 &&& (288230376151711743 : Int64))), .second, .val (.long (own_f0_1 x0 x1)), .second, .val (.long (own_f0_2 x0 x1)), .second, .unset, .unset, .unset] [(.int (own_f0_3 x0 x1))])) := by
      refine own_Goes.step (fun t k => XS.istore X1.here hx rfl (hb hby at_58) rfl (l' := #[.val (.long x0), .second, .val (.long x1), .second, .val (.long (x0 &&& (72057594037927935 : Int64))), .second, .val (.long (x1 &&& (288230376151711743 : Int64))), .second, .val (.long (own_f0_1 x0 x1)), .second, .val (.long (own_f0_2 x0 x1)), .second, .val (.int (own_f0_3 x0 x1)), .unset, .unset]) rfl k) ?_
      show own_Goes p e below s (own_F0 Z x0 x1 n0 h0) room_1.cells room_1.slots (T1.setTop (mkF m 60 #[.val (.long x0), .second, .val (.long x1), .second, .val (.long (x0 &&& (72057594037927935 : Int64))), .second, .val (.long (x1 &&& (288230376151711743 : Int64))), .second, .val (.long (own_f0_1 x0 x1)), .second, .val (.long (own_f0_2 x0 x1)), .second, .val (.int (own_f0_3 x0 x1)), .unset, .unset] []))
      refine own_Goes.step (fun t k => XT.lload X1.here hx rfl (hb hby at_60) rfl k) ?_
      show own_Goes p e below s (own_F0 Z x0 x1 n0 h0) room_1.cells room_1.slots (T1.setTop (mkF m 62 #[.val (.long x0), .second, .val (.long x1), .second, .val (.long (x0 &&& (72057594037927935 : Int64))), .second, .val (.long (x1 &&& (288230376151711743 : Int64))), .second, .val (.long (own_f0_1 x0 x1)), .second, .val (.long (own_f0_2 x0 x1)), .second, .val (.int (own_f0_3 x0 x1)), .unset, .unset] [(.long (own_f0_1 x0 x1))]))
      refine own_Goes.step (fun t k => XT.lload X1.here hx rfl (hb hby at_62) rfl k) ?_
      show own_Goes p e below s (own_F0 Z x0 x1 n0 h0) room_1.cells room_1.slots (T1.setTop (mkF m 64 #[.val (.long x0), .second, .val (.long x1), .second, .val (.long (x0 &&& (72057594037927935 : Int64))), .second, .val (.long (x1 &&& (288230376151711743 : Int64))), .second, .val (.long (own_f0_1 x0 x1)), .second, .val (.long (own_f0_2 x0 x1)), .second, .val (.int (own_f0_3 x0 x1)), .unset, .unset] [(.long (own_f0_2 x0 x1)), (.long (own_f0_1 x0 x1))]))
      refine own_Goes.step (fun t k => XT.lcmp X1.here hx rfl (hb hby at_64) rfl k) ?_
      show own_Goes p e below s (own_F0 Z x0 x1 n0 h0) room_1.cells room_1.slots (T1.setTop (mkF m 65 #[.val (.long x0), .second, .val (.long x1), .second, .val (.long (x0 &&& (72057594037927935 : Int64))), .second, .val (.long (x1 &&& (288230376151711743 : Int64))), .second, .val (.long (own_f0_1 x0 x1)), .second, .val (.long (own_f0_2 x0 x1)), .second, .val (.int (own_f0_3 x0 x1)), .unset, .unset] [(.int (XT.cmpL (own_f0_1 x0 x1) (own_f0_2 x0 x1)))]))
      have J9 : own_Goes p e below s (own_F0 Z x0 x1 n0 h0) room_1.cells room_1.slots (T1.setTop (mkF m 73 #[.val (.long x0), .second, .val (.long x1), .second, .val (.long (x0 &&& (72057594037927935 : Int64))), .second, .val (.long (x1 &&& (288230376151711743 : Int64))), .second, .val (.long (own_f0_1 x0 x1)), .second, .val (.long (own_f0_2 x0 x1)), .second, .val (.int (own_f0_3 x0 x1)), .unset, .unset] [(.int (own_f0_4 x0 x1))])) := by
        refine own_Goes.step (fun t k => XS.istore X1.here hx rfl (hb hby at_73) rfl (l' := #[.val (.long x0), .second, .val (.long x1), .second, .val (.long (x0 &&& (72057594037927935 : Int64))), .second, .val (.long (x1 &&& (288230376151711743 : Int64))), .second, .val (.long (own_f0_1 x0 x1)), .second, .val (.long (own_f0_2 x0 x1)), .second, .val (.int (own_f0_3 x0 x1)), .val (.int (own_f0_4 x0 x1)), .unset]) rfl k) ?_
        show own_Goes p e below s (own_F0 Z x0 x1 n0 h0) room_1.cells room_1.slots (T1.setTop (mkF m 75 #[.val (.long x0), .second, .val (.long x1), .second, .val (.long (x0 &&& (72057594037927935 : Int64))), .second, .val (.long (x1 &&& (288230376151711743 : Int64))), .second, .val (.long (own_f0_1 x0 x1)), .second, .val (.long (own_f0_2 x0 x1)), .second, .val (.int (own_f0_3 x0 x1)), .val (.int (own_f0_4 x0 x1)), .unset] []))
        refine own_Goes.step (fun t k => XT.lload X1.here hx rfl (hb hby at_75) rfl k) ?_
        show own_Goes p e below s (own_F0 Z x0 x1 n0 h0) room_1.cells room_1.slots (T1.setTop (mkF m 77 #[.val (.long x0), .second, .val (.long x1), .second, .val (.long (x0 &&& (72057594037927935 : Int64))), .second, .val (.long (x1 &&& (288230376151711743 : Int64))), .second, .val (.long (own_f0_1 x0 x1)), .second, .val (.long (own_f0_2 x0 x1)), .second, .val (.int (own_f0_3 x0 x1)), .val (.int (own_f0_4 x0 x1)), .unset] [(.long (own_f0_1 x0 x1))]))
        refine own_Goes.step (fun t k => XT.lload X1.here hx rfl (hb hby at_77) rfl k) ?_
        show own_Goes p e below s (own_F0 Z x0 x1 n0 h0) room_1.cells room_1.slots (T1.setTop (mkF m 79 #[.val (.long x0), .second, .val (.long x1), .second, .val (.long (x0 &&& (72057594037927935 : Int64))), .second, .val (.long (x1 &&& (288230376151711743 : Int64))), .second, .val (.long (own_f0_1 x0 x1)), .second, .val (.long (own_f0_2 x0 x1)), .second, .val (.int (own_f0_3 x0 x1)), .val (.int (own_f0_4 x0 x1)), .unset] [(.long (own_f0_2 x0 x1)), (.long (own_f0_1 x0 x1))]))
        refine own_Goes.step (fun t k => XT.lsub X1.here hx rfl (hb hby at_79) rfl k) ?_
        show own_Goes p e below s (own_F0 Z x0 x1 n0 h0) room_1.cells room_1.slots (T1.setTop (mkF m 80 #[.val (.long x0), .second, .val (.long x1), .second, .val (.long (x0 &&& (72057594037927935 : Int64))), .second, .val (.long (x1 &&& (288230376151711743 : Int64))), .second, .val (.long (own_f0_1 x0 x1)), .second, .val (.long (own_f0_2 x0 x1)), .second, .val (.int (own_f0_3 x0 x1)), .val (.int (own_f0_4 x0 x1)), .unset] [(.long ((own_f0_1 x0 x1) - (own_f0_2 x0 x1)))]))
        refine own_Goes.step (fun t k => X1.ldc2J hx hown (mvT hZ (hw _ (List.mem_of_getElem? (i := 13) rfl))) rfl (hb hby at_80) k) ?_
        show own_Goes p e below s (own_F0 Z x0 x1 n0 h0) room_1.cells room_1.slots (T1.setTop (mkF m 83 #[.val (.long x0), .second, .val (.long x1), .second, .val (.long (x0 &&& (72057594037927935 : Int64))), .second, .val (.long (x1 &&& (288230376151711743 : Int64))), .second, .val (.long (own_f0_1 x0 x1)), .second, .val (.long (own_f0_2 x0 x1)), .second, .val (.int (own_f0_3 x0 x1)), .val (.int (own_f0_4 x0 x1)), .unset] [(.long (4096 : Int64)), (.long ((own_f0_1 x0 x1) - (own_f0_2 x0 x1)))]))
        refine own_Goes.step (fun t k => XT.lcmp X1.here hx rfl (hb hby at_83) rfl k) ?_
        show own_Goes p e below s (own_F0 Z x0 x1 n0 h0) room_1.cells room_1.slots (T1.setTop (mkF m 84 #[.val (.long x0), .second, .val (.long x1), .second, .val (.long (x0 &&& (72057594037927935 : Int64))), .second, .val (.long (x1 &&& (288230376151711743 : Int64))), .second, .val (.long (own_f0_1 x0 x1)), .second, .val (.long (own_f0_2 x0 x1)), .second, .val (.int (own_f0_3 x0 x1)), .val (.int (own_f0_4 x0 x1)), .unset] [(.int (XT.cmpL ((own_f0_1 x0 x1) - (own_f0_2 x0 x1)) (4096 : Int64)))]))
        have J8 : own_Goes p e below s (own_F0 Z x0 x1 n0 h0) room_1.cells room_1.slots (T1.setTop (mkF m 92 #[.val (.long x0), .second, .val (.long x1), .second, .val (.long (x0 &&& (72057594037927935 : Int64))), .second, .val (.long (x1 &&& (288230376151711743 : Int64))), .second, .val (.long (own_f0_1 x0 x1)), .second, .val (.long (own_f0_2 x0 x1)), .second, .val (.int (own_f0_3 x0 x1)), .val (.int (own_f0_4 x0 x1)), .unset] [(.int (own_f0_5 x0 x1))])) := by
          refine own_Goes.step (fun t k => XS.istore X1.here hx rfl (hb hby at_92) rfl (l' := #[.val (.long x0), .second, .val (.long x1), .second, .val (.long (x0 &&& (72057594037927935 : Int64))), .second, .val (.long (x1 &&& (288230376151711743 : Int64))), .second, .val (.long (own_f0_1 x0 x1)), .second, .val (.long (own_f0_2 x0 x1)), .second, .val (.int (own_f0_3 x0 x1)), .val (.int (own_f0_4 x0 x1)), .val (.int (own_f0_5 x0 x1))]) rfl k) ?_
          show own_Goes p e below s (own_F0 Z x0 x1 n0 h0) room_1.cells room_1.slots (T1.setTop (mkF m 94 #[.val (.long x0), .second, .val (.long x1), .second, .val (.long (x0 &&& (72057594037927935 : Int64))), .second, .val (.long (x1 &&& (288230376151711743 : Int64))), .second, .val (.long (own_f0_1 x0 x1)), .second, .val (.long (own_f0_2 x0 x1)), .second, .val (.int (own_f0_3 x0 x1)), .val (.int (own_f0_4 x0 x1)), .val (.int (own_f0_5 x0 x1))] []))
          refine own_Goes.step (fun t k => XS.iload X1.here hx rfl (hb hby at_94) rfl k) ?_
          show own_Goes p e below s (own_F0 Z x0 x1 n0 h0) room_1.cells room_1.slots (T1.setTop (mkF m 96 #[.val (.long x0), .second, .val (.long x1), .second, .val (.long (x0 &&& (72057594037927935 : Int64))), .second, .val (.long (x1 &&& (288230376151711743 : Int64))), .second, .val (.long (own_f0_1 x0 x1)), .second, .val (.long (own_f0_2 x0 x1)), .second, .val (.int (own_f0_3 x0 x1)), .val (.int (own_f0_4 x0 x1)), .val (.int (own_f0_5 x0 x1))] [(.int (own_f0_3 x0 x1))]))
          by_cases hc5 : (own_f0_3 x0 x1) = (0 : Int32)
          · refine own_Goes.step (fun t k => XS.ifYes X1.here hx rfl (pc0 := 96) (pc' := 113) rfl (hb hby at_96) rfl (XT.i0_eq_t hc5) (by decide) (by decide) k) ?_
            show own_Goes p e below s (own_F0 Z x0 x1 n0 h0) room_1.cells room_1.slots (T1.setTop (mkF m 113 #[.val (.long x0), .second, .val (.long x1), .second, .val (.long (x0 &&& (72057594037927935 : Int64))), .second, .val (.long (x1 &&& (288230376151711743 : Int64))), .second, .val (.long (own_f0_1 x0 x1)), .second, .val (.long (own_f0_2 x0 x1)), .second, .val (.int (own_f0_3 x0 x1)), .val (.int (own_f0_4 x0 x1)), .val (.int (own_f0_5 x0 x1))] []))
            refine own_Goes.step (fun t k => XT.iconstV X1.here hx rfl (0 : Int32) (hb hby at_113) (by decide) k) ?_
            show own_Goes p e below s (own_F0 Z x0 x1 n0 h0) room_1.cells room_1.slots (T1.setTop (mkF m 114 #[.val (.long x0), .second, .val (.long x1), .second, .val (.long (x0 &&& (72057594037927935 : Int64))), .second, .val (.long (x1 &&& (288230376151711743 : Int64))), .second, .val (.long (own_f0_1 x0 x1)), .second, .val (.long (own_f0_2 x0 x1)), .second, .val (.int (own_f0_3 x0 x1)), .val (.int (own_f0_4 x0 x1)), .val (.int (own_f0_5 x0 x1))] [(.int (0 : Int32))]))
            exact own_endN X1 hx Bd.notSynchronized (t := .boolean) Bd.returns (by simp) (hb hby at_114) ⟨(congrArg (fun z => some (Value.int z)) (show (0 : Int32) = own_f0 x0 x1 from by simp only [own_f0, if_pos hc5])), N0⟩ (by decide) (by decide)
          · refine own_Goes.step (fun t k => XS.ifNo X1.here hx rfl (hb hby at_96) rfl (XT.i0_eq_f hc5) k) ?_
            show own_Goes p e below s (own_F0 Z x0 x1 n0 h0) room_1.cells room_1.slots (T1.setTop (mkF m 99 #[.val (.long x0), .second, .val (.long x1), .second, .val (.long (x0 &&& (72057594037927935 : Int64))), .second, .val (.long (x1 &&& (288230376151711743 : Int64))), .second, .val (.long (own_f0_1 x0 x1)), .second, .val (.long (own_f0_2 x0 x1)), .second, .val (.int (own_f0_3 x0 x1)), .val (.int (own_f0_4 x0 x1)), .val (.int (own_f0_5 x0 x1))] []))
            refine own_Goes.step (fun t k => XS.iload X1.here hx rfl (hb hby at_99) rfl k) ?_
            show own_Goes p e below s (own_F0 Z x0 x1 n0 h0) room_1.cells room_1.slots (T1.setTop (mkF m 101 #[.val (.long x0), .second, .val (.long x1), .second, .val (.long (x0 &&& (72057594037927935 : Int64))), .second, .val (.long (x1 &&& (288230376151711743 : Int64))), .second, .val (.long (own_f0_1 x0 x1)), .second, .val (.long (own_f0_2 x0 x1)), .second, .val (.int (own_f0_3 x0 x1)), .val (.int (own_f0_4 x0 x1)), .val (.int (own_f0_5 x0 x1))] [(.int (own_f0_4 x0 x1))]))
            by_cases hc6 : (own_f0_4 x0 x1) = (0 : Int32)
            · refine own_Goes.step (fun t k => XS.ifYes X1.here hx rfl (pc0 := 101) (pc' := 113) rfl (hb hby at_101) rfl (XT.i0_eq_t hc6) (by decide) (by decide) k) ?_
              show own_Goes p e below s (own_F0 Z x0 x1 n0 h0) room_1.cells room_1.slots (T1.setTop (mkF m 113 #[.val (.long x0), .second, .val (.long x1), .second, .val (.long (x0 &&& (72057594037927935 : Int64))), .second, .val (.long (x1 &&& (288230376151711743 : Int64))), .second, .val (.long (own_f0_1 x0 x1)), .second, .val (.long (own_f0_2 x0 x1)), .second, .val (.int (own_f0_3 x0 x1)), .val (.int (own_f0_4 x0 x1)), .val (.int (own_f0_5 x0 x1))] []))
              refine own_Goes.step (fun t k => XT.iconstV X1.here hx rfl (0 : Int32) (hb hby at_113) (by decide) k) ?_
              show own_Goes p e below s (own_F0 Z x0 x1 n0 h0) room_1.cells room_1.slots (T1.setTop (mkF m 114 #[.val (.long x0), .second, .val (.long x1), .second, .val (.long (x0 &&& (72057594037927935 : Int64))), .second, .val (.long (x1 &&& (288230376151711743 : Int64))), .second, .val (.long (own_f0_1 x0 x1)), .second, .val (.long (own_f0_2 x0 x1)), .second, .val (.int (own_f0_3 x0 x1)), .val (.int (own_f0_4 x0 x1)), .val (.int (own_f0_5 x0 x1))] [(.int (0 : Int32))]))
              exact own_endN X1 hx Bd.notSynchronized (t := .boolean) Bd.returns (by simp) (hb hby at_114) ⟨(congrArg (fun z => some (Value.int z)) (show (0 : Int32) = own_f0 x0 x1 from by simp only [own_f0, if_neg hc5, if_pos hc6])), N0⟩ (by decide) (by decide)
            · refine own_Goes.step (fun t k => XS.ifNo X1.here hx rfl (hb hby at_101) rfl (XT.i0_eq_f hc6) k) ?_
              show own_Goes p e below s (own_F0 Z x0 x1 n0 h0) room_1.cells room_1.slots (T1.setTop (mkF m 104 #[.val (.long x0), .second, .val (.long x1), .second, .val (.long (x0 &&& (72057594037927935 : Int64))), .second, .val (.long (x1 &&& (288230376151711743 : Int64))), .second, .val (.long (own_f0_1 x0 x1)), .second, .val (.long (own_f0_2 x0 x1)), .second, .val (.int (own_f0_3 x0 x1)), .val (.int (own_f0_4 x0 x1)), .val (.int (own_f0_5 x0 x1))] []))
              refine own_Goes.step (fun t k => XS.iload X1.here hx rfl (hb hby at_104) rfl k) ?_
              show own_Goes p e below s (own_F0 Z x0 x1 n0 h0) room_1.cells room_1.slots (T1.setTop (mkF m 106 #[.val (.long x0), .second, .val (.long x1), .second, .val (.long (x0 &&& (72057594037927935 : Int64))), .second, .val (.long (x1 &&& (288230376151711743 : Int64))), .second, .val (.long (own_f0_1 x0 x1)), .second, .val (.long (own_f0_2 x0 x1)), .second, .val (.int (own_f0_3 x0 x1)), .val (.int (own_f0_4 x0 x1)), .val (.int (own_f0_5 x0 x1))] [(.int (own_f0_5 x0 x1))]))
              by_cases hc7 : (own_f0_5 x0 x1) = (0 : Int32)
              · refine own_Goes.step (fun t k => XS.ifYes X1.here hx rfl (pc0 := 106) (pc' := 113) rfl (hb hby at_106) rfl (XT.i0_eq_t hc7) (by decide) (by decide) k) ?_
                show own_Goes p e below s (own_F0 Z x0 x1 n0 h0) room_1.cells room_1.slots (T1.setTop (mkF m 113 #[.val (.long x0), .second, .val (.long x1), .second, .val (.long (x0 &&& (72057594037927935 : Int64))), .second, .val (.long (x1 &&& (288230376151711743 : Int64))), .second, .val (.long (own_f0_1 x0 x1)), .second, .val (.long (own_f0_2 x0 x1)), .second, .val (.int (own_f0_3 x0 x1)), .val (.int (own_f0_4 x0 x1)), .val (.int (own_f0_5 x0 x1))] []))
                refine own_Goes.step (fun t k => XT.iconstV X1.here hx rfl (0 : Int32) (hb hby at_113) (by decide) k) ?_
                show own_Goes p e below s (own_F0 Z x0 x1 n0 h0) room_1.cells room_1.slots (T1.setTop (mkF m 114 #[.val (.long x0), .second, .val (.long x1), .second, .val (.long (x0 &&& (72057594037927935 : Int64))), .second, .val (.long (x1 &&& (288230376151711743 : Int64))), .second, .val (.long (own_f0_1 x0 x1)), .second, .val (.long (own_f0_2 x0 x1)), .second, .val (.int (own_f0_3 x0 x1)), .val (.int (own_f0_4 x0 x1)), .val (.int (own_f0_5 x0 x1))] [(.int (0 : Int32))]))
                exact own_endN X1 hx Bd.notSynchronized (t := .boolean) Bd.returns (by simp) (hb hby at_114) ⟨(congrArg (fun z => some (Value.int z)) (show (0 : Int32) = own_f0 x0 x1 from by simp only [own_f0, if_neg hc5, if_neg hc6, if_pos hc7])), N0⟩ (by decide) (by decide)
              · refine own_Goes.step (fun t k => XS.ifNo X1.here hx rfl (hb hby at_106) rfl (XT.i0_eq_f hc7) k) ?_
                show own_Goes p e below s (own_F0 Z x0 x1 n0 h0) room_1.cells room_1.slots (T1.setTop (mkF m 109 #[.val (.long x0), .second, .val (.long x1), .second, .val (.long (x0 &&& (72057594037927935 : Int64))), .second, .val (.long (x1 &&& (288230376151711743 : Int64))), .second, .val (.long (own_f0_1 x0 x1)), .second, .val (.long (own_f0_2 x0 x1)), .second, .val (.int (own_f0_3 x0 x1)), .val (.int (own_f0_4 x0 x1)), .val (.int (own_f0_5 x0 x1))] []))
                refine own_Goes.step (fun t k => XT.iconstV X1.here hx rfl (1 : Int32) (hb hby at_109) (by decide) k) ?_
                show own_Goes p e below s (own_F0 Z x0 x1 n0 h0) room_1.cells room_1.slots (T1.setTop (mkF m 110 #[.val (.long x0), .second, .val (.long x1), .second, .val (.long (x0 &&& (72057594037927935 : Int64))), .second, .val (.long (x1 &&& (288230376151711743 : Int64))), .second, .val (.long (own_f0_1 x0 x1)), .second, .val (.long (own_f0_2 x0 x1)), .second, .val (.int (own_f0_3 x0 x1)), .val (.int (own_f0_4 x0 x1)), .val (.int (own_f0_5 x0 x1))] [(.int (1 : Int32))]))
                refine own_Goes.step (fun t k => XS.goto X1.here hx rfl (pc0 := 110) (pc' := 114) rfl (hb hby at_110) (by decide) (by decide) k) ?_
                show own_Goes p e below s (own_F0 Z x0 x1 n0 h0) room_1.cells room_1.slots (T1.setTop (mkF m 114 #[.val (.long x0), .second, .val (.long x1), .second, .val (.long (x0 &&& (72057594037927935 : Int64))), .second, .val (.long (x1 &&& (288230376151711743 : Int64))), .second, .val (.long (own_f0_1 x0 x1)), .second, .val (.long (own_f0_2 x0 x1)), .second, .val (.int (own_f0_3 x0 x1)), .val (.int (own_f0_4 x0 x1)), .val (.int (own_f0_5 x0 x1))] [(.int (1 : Int32))]))
                exact own_endN X1 hx Bd.notSynchronized (t := .boolean) Bd.returns (by simp) (hb hby at_114) ⟨(congrArg (fun z => some (Value.int z)) (show (1 : Int32) = own_f0 x0 x1 from by simp only [own_f0, if_neg hc5, if_neg hc6, if_neg hc7])), N0⟩ (by decide) (by decide)
        by_cases hc4 : ((own_f0_1 x0 x1) - (own_f0_2 x0 x1)) < (4096 : Int64)
        · refine own_Goes.step (fun t k => XS.ifNo X1.here hx rfl (hb hby at_84) rfl (XT.ll_ge_f hc4) k) ?_
          show own_Goes p e below s (own_F0 Z x0 x1 n0 h0) room_1.cells room_1.slots (T1.setTop (mkF m 87 #[.val (.long x0), .second, .val (.long x1), .second, .val (.long (x0 &&& (72057594037927935 : Int64))), .second, .val (.long (x1 &&& (288230376151711743 : Int64))), .second, .val (.long (own_f0_1 x0 x1)), .second, .val (.long (own_f0_2 x0 x1)), .second, .val (.int (own_f0_3 x0 x1)), .val (.int (own_f0_4 x0 x1)), .unset] []))
          refine own_Goes.step (fun t k => XT.iconstV X1.here hx rfl (1 : Int32) (hb hby at_87) (by decide) k) ?_
          show own_Goes p e below s (own_F0 Z x0 x1 n0 h0) room_1.cells room_1.slots (T1.setTop (mkF m 88 #[.val (.long x0), .second, .val (.long x1), .second, .val (.long (x0 &&& (72057594037927935 : Int64))), .second, .val (.long (x1 &&& (288230376151711743 : Int64))), .second, .val (.long (own_f0_1 x0 x1)), .second, .val (.long (own_f0_2 x0 x1)), .second, .val (.int (own_f0_3 x0 x1)), .val (.int (own_f0_4 x0 x1)), .unset] [(.int (1 : Int32))]))
          refine own_Goes.step (fun t k => XS.goto X1.here hx rfl (pc0 := 88) (pc' := 92) rfl (hb hby at_88) (by decide) (by decide) k) ?_
          show own_Goes p e below s (own_F0 Z x0 x1 n0 h0) room_1.cells room_1.slots (T1.setTop (mkF m 92 #[.val (.long x0), .second, .val (.long x1), .second, .val (.long (x0 &&& (72057594037927935 : Int64))), .second, .val (.long (x1 &&& (288230376151711743 : Int64))), .second, .val (.long (own_f0_1 x0 x1)), .second, .val (.long (own_f0_2 x0 x1)), .second, .val (.int (own_f0_3 x0 x1)), .val (.int (own_f0_4 x0 x1)), .unset] [(.int (1 : Int32))]))
          rw [show (own_f0_5 x0 x1) = (1 : Int32) from by simp only [own_f0_5, if_pos hc4]] at J8
          exact J8
        · refine own_Goes.step (fun t k => XS.ifYes X1.here hx rfl (pc0 := 84) (pc' := 91) rfl (hb hby at_84) rfl (XT.ll_ge_t hc4) (by decide) (by decide) k) ?_
          show own_Goes p e below s (own_F0 Z x0 x1 n0 h0) room_1.cells room_1.slots (T1.setTop (mkF m 91 #[.val (.long x0), .second, .val (.long x1), .second, .val (.long (x0 &&& (72057594037927935 : Int64))), .second, .val (.long (x1 &&& (288230376151711743 : Int64))), .second, .val (.long (own_f0_1 x0 x1)), .second, .val (.long (own_f0_2 x0 x1)), .second, .val (.int (own_f0_3 x0 x1)), .val (.int (own_f0_4 x0 x1)), .unset] []))
          refine own_Goes.step (fun t k => XT.iconstV X1.here hx rfl (0 : Int32) (hb hby at_91) (by decide) k) ?_
          show own_Goes p e below s (own_F0 Z x0 x1 n0 h0) room_1.cells room_1.slots (T1.setTop (mkF m 92 #[.val (.long x0), .second, .val (.long x1), .second, .val (.long (x0 &&& (72057594037927935 : Int64))), .second, .val (.long (x1 &&& (288230376151711743 : Int64))), .second, .val (.long (own_f0_1 x0 x1)), .second, .val (.long (own_f0_2 x0 x1)), .second, .val (.int (own_f0_3 x0 x1)), .val (.int (own_f0_4 x0 x1)), .unset] [(.int (0 : Int32))]))
          rw [show (own_f0_5 x0 x1) = (0 : Int32) from by simp only [own_f0_5, if_neg hc4]] at J8
          exact J8
      by_cases hc3 : (own_f0_1 x0 x1) < (own_f0_2 x0 x1)
      · refine own_Goes.step (fun t k => XS.ifYes X1.here hx rfl (pc0 := 65) (pc' := 72) rfl (hb hby at_65) rfl (XT.ll_lt_t hc3) (by decide) (by decide) k) ?_
        show own_Goes p e below s (own_F0 Z x0 x1 n0 h0) room_1.cells room_1.slots (T1.setTop (mkF m 72 #[.val (.long x0), .second, .val (.long x1), .second, .val (.long (x0 &&& (72057594037927935 : Int64))), .second, .val (.long (x1 &&& (288230376151711743 : Int64))), .second, .val (.long (own_f0_1 x0 x1)), .second, .val (.long (own_f0_2 x0 x1)), .second, .val (.int (own_f0_3 x0 x1)), .unset, .unset] []))
        refine own_Goes.step (fun t k => XT.iconstV X1.here hx rfl (0 : Int32) (hb hby at_72) (by decide) k) ?_
        show own_Goes p e below s (own_F0 Z x0 x1 n0 h0) room_1.cells room_1.slots (T1.setTop (mkF m 73 #[.val (.long x0), .second, .val (.long x1), .second, .val (.long (x0 &&& (72057594037927935 : Int64))), .second, .val (.long (x1 &&& (288230376151711743 : Int64))), .second, .val (.long (own_f0_1 x0 x1)), .second, .val (.long (own_f0_2 x0 x1)), .second, .val (.int (own_f0_3 x0 x1)), .unset, .unset] [(.int (0 : Int32))]))
        rw [show (own_f0_4 x0 x1) = (0 : Int32) from by simp only [own_f0_4, if_pos hc3]] at J9
        exact J9
      · refine own_Goes.step (fun t k => XS.ifNo X1.here hx rfl (hb hby at_65) rfl (XT.ll_lt_f hc3) k) ?_
        show own_Goes p e below s (own_F0 Z x0 x1 n0 h0) room_1.cells room_1.slots (T1.setTop (mkF m 68 #[.val (.long x0), .second, .val (.long x1), .second, .val (.long (x0 &&& (72057594037927935 : Int64))), .second, .val (.long (x1 &&& (288230376151711743 : Int64))), .second, .val (.long (own_f0_1 x0 x1)), .second, .val (.long (own_f0_2 x0 x1)), .second, .val (.int (own_f0_3 x0 x1)), .unset, .unset] []))
        refine own_Goes.step (fun t k => XT.iconstV X1.here hx rfl (1 : Int32) (hb hby at_68) (by decide) k) ?_
        show own_Goes p e below s (own_F0 Z x0 x1 n0 h0) room_1.cells room_1.slots (T1.setTop (mkF m 69 #[.val (.long x0), .second, .val (.long x1), .second, .val (.long (x0 &&& (72057594037927935 : Int64))), .second, .val (.long (x1 &&& (288230376151711743 : Int64))), .second, .val (.long (own_f0_1 x0 x1)), .second, .val (.long (own_f0_2 x0 x1)), .second, .val (.int (own_f0_3 x0 x1)), .unset, .unset] [(.int (1 : Int32))]))
        refine own_Goes.step (fun t k => XS.goto X1.here hx rfl (pc0 := 69) (pc' := 73) rfl (hb hby at_69) (by decide) (by decide) k) ?_
        show own_Goes p e below s (own_F0 Z x0 x1 n0 h0) room_1.cells room_1.slots (T1.setTop (mkF m 73 #[.val (.long x0), .second, .val (.long x1), .second, .val (.long (x0 &&& (72057594037927935 : Int64))), .second, .val (.long (x1 &&& (288230376151711743 : Int64))), .second, .val (.long (own_f0_1 x0 x1)), .second, .val (.long (own_f0_2 x0 x1)), .second, .val (.int (own_f0_3 x0 x1)), .unset, .unset] [(.int (1 : Int32))]))
        rw [show (own_f0_4 x0 x1) = (1 : Int32) from by simp only [own_f0_4, if_neg hc3]] at J9
        exact J9
    by_cases hc2 : ((own_f0_1 x0 x1) % (4096 : Int64)) = (0 : Int64)
    · refine own_Goes.step (fun t k => XS.ifNo X1.here hx rfl (hb hby at_50) rfl (XT.ll_ne_f hc2) k) ?_
      show own_Goes p e below s (own_F0 Z x0 x1 n0 h0) room_1.cells room_1.slots (T1.setTop (mkF m 53 #[.val (.long x0), .second, .val (.long x1), .second, .val (.long (x0 &&& (72057594037927935 : Int64))), .second, .val (.long (x1 &&& (288230376151711743 : Int64))), .second, .val (.long (own_f0_1 x0 x1)), .second, .val (.long (own_f0_2 x0 x1)), .second, .unset, .unset, .unset] []))
      refine own_Goes.step (fun t k => XT.iconstV X1.here hx rfl (1 : Int32) (hb hby at_53) (by decide) k) ?_
      show own_Goes p e below s (own_F0 Z x0 x1 n0 h0) room_1.cells room_1.slots (T1.setTop (mkF m 54 #[.val (.long x0), .second, .val (.long x1), .second, .val (.long (x0 &&& (72057594037927935 : Int64))), .second, .val (.long (x1 &&& (288230376151711743 : Int64))), .second, .val (.long (own_f0_1 x0 x1)), .second, .val (.long (own_f0_2 x0 x1)), .second, .unset, .unset, .unset] [(.int (1 : Int32))]))
      refine own_Goes.step (fun t k => XS.goto X1.here hx rfl (pc0 := 54) (pc' := 58) rfl (hb hby at_54) (by decide) (by decide) k) ?_
      show own_Goes p e below s (own_F0 Z x0 x1 n0 h0) room_1.cells room_1.slots (T1.setTop (mkF m 58 #[.val (.long x0), .second, .val (.long x1), .second, .val (.long (x0 &&& (72057594037927935 : Int64))), .second, .val (.long (x1 &&& (288230376151711743 : Int64))), .second, .val (.long (own_f0_1 x0 x1)), .second, .val (.long (own_f0_2 x0 x1)), .second, .unset, .unset, .unset] [(.int (1 : Int32))]))
      rw [show (own_f0_3 x0 x1) = (1 : Int32) from by simp only [own_f0_3, if_pos hc2]] at J10
      exact J10
    · refine own_Goes.step (fun t k => XS.ifYes X1.here hx rfl (pc0 := 50) (pc' := 57) rfl (hb hby at_50) rfl (XT.ll_ne_t hc2) (by decide) (by decide) k) ?_
      show own_Goes p e below s (own_F0 Z x0 x1 n0 h0) room_1.cells room_1.slots (T1.setTop (mkF m 57 #[.val (.long x0), .second, .val (.long x1), .second, .val (.long (x0 &&& (72057594037927935 : Int64))), .second, .val (.long (x1 &&& (288230376151711743 : Int64))), .second, .val (.long (own_f0_1 x0 x1)), .second, .val (.long (own_f0_2 x0 x1)), .second, .unset, .unset, .unset] []))
      refine own_Goes.step (fun t k => XT.iconstV X1.here hx rfl (0 : Int32) (hb hby at_57) (by decide) k) ?_
      show own_Goes p e below s (own_F0 Z x0 x1 n0 h0) room_1.cells room_1.slots (T1.setTop (mkF m 58 #[.val (.long x0), .second, .val (.long x1), .second, .val (.long (x0 &&& (72057594037927935 : Int64))), .second, .val (.long (x1 &&& (288230376151711743 : Int64))), .second, .val (.long (own_f0_1 x0 x1)), .second, .val (.long (own_f0_2 x0 x1)), .second, .unset, .unset, .unset] [(.int (0 : Int32))]))
      rw [show (own_f0_3 x0 x1) = (0 : Int32) from by simp only [own_f0_3, if_neg hc2]] at J10
      exact J10
  obtain ⟨t2, o2, q1, q2, q3, q4⟩ := hgo
  exact ⟨t2, o2, castTop (ef_0 m x0 x1) q1, q2, q3, q4⟩
theorem own_law (x0 x1 : Int64) : own_f0 x0 x1 = 1 := by
  have a1 : (x0 &&& (72057594037927935 : Int64)).toInt = x0.toInt % 2 ^ 56 := Jvm.Kit.i64_mask x0 _ (k := 56) (by decide) (by decide)
  have a2 : (x1 &&& (288230376151711743 : Int64)).toInt = x1.toInt % 2 ^ 58 := Jvm.Kit.i64_mask x1 _ (k := 58) (by decide) (by decide)
  unfold own_f0 own_f0_3 own_f0_4 own_f0_5 own_f0_1 own_f0_2 own_f1 own_f1_1
  have c1 : 0 ≤ (x0 &&& (72057594037927935 : Int64)).toInt ∧ (x0 &&& (72057594037927935 : Int64)).toInt < 2 ^ 56 := by omega
  have c2 : 0 ≤ (x1 &&& (288230376151711743 : Int64)).toInt ∧ (x1 &&& (288230376151711743 : Int64)).toInt < 2 ^ 58 := by omega
  generalize (x0 &&& (72057594037927935 : Int64)) = u at *
  generalize (x1 &&& (288230376151711743 : Int64)) = d at *
  clear a1 a2
  have k12 : (12 : Int64).toInt = 12 := rfl
  have k4 : (4 : Int64).toInt = 4 := rfl
  have kM : (1048576 : Int64).toInt = 1048576 := rfl
  have kP : (4096 : Int64).toInt = 4096 := rfl
  have k1 : (1 : Int64).toInt = 1 := rfl
  have k0 : (0 : Int64).toInt = 0 := rfl
  have e1 : ((12 : Int64) * u).toInt = 12 * u.toInt := by rw [Jvm.Kit.i64_mul (by rw [k12]; omega) (by rw [k12]; omega), k12]
  have e2 : (d + (12 : Int64) * u).toInt = d.toInt + 12 * u.toInt := by rw [Jvm.Kit.i64_add (by rw [e1]; omega) (by rw [e1]; omega), e1]
  have e3 : ((4 : Int64) * (d + (12 : Int64) * u)).toInt = 4 * (d.toInt + 12 * u.toInt) := by rw [Jvm.Kit.i64_mul (by rw [k4, e2]; omega) (by rw [k4, e2]; omega), k4, e2]
  have e4 : ((4 : Int64) * (d + (12 : Int64) * u) + (1048576 : Int64)).toInt = 4 * (d.toInt + 12 * u.toInt) + 1048576 := by rw [Jvm.Kit.i64_add (by rw [e3, kM]; omega) (by rw [e3, kM]; omega), e3, kM]
  generalize (4 : Int64) * (d + (12 : Int64) * u) + (1048576 : Int64) = r at *
  have f1 : (r + (4096 : Int64)).toInt = r.toInt + 4096 := by rw [Jvm.Kit.i64_add (by rw [kP]; omega) (by rw [kP]; omega), kP]
  have f2 : (r + (4096 : Int64) - (1 : Int64)).toInt = r.toInt + 4095 := by rw [Jvm.Kit.i64_sub (by rw [f1, k1]; omega) (by rw [f1, k1]; omega), f1, k1]; omega
  have f3 : ((r + (4096 : Int64) - (1 : Int64)) / (4096 : Int64)).toInt = (r.toInt + 4095) / 4096 := by
    rw [Jvm.Kit.i64_div (by rw [kP]; omega), f2, kP, Int.tdiv_eq_ediv_of_nonneg (by omega)]
  have f4 : ((r + (4096 : Int64) - (1 : Int64)) / (4096 : Int64) * (4096 : Int64)).toInt = (r.toInt + 4095) / 4096 * 4096 := by
    rw [Jvm.Kit.i64_mul (by rw [f3, kP]; omega) (by rw [f3, kP]; omega), f3, kP]
  generalize (r + (4096 : Int64) - (1 : Int64)) / (4096 : Int64) * (4096 : Int64) = q at *
  have g1 : q % (4096 : Int64) = 0 := by
    rw [own_eq64, Int64.toInt_mod, kP, k0, f4, Int.tmod_eq_emod_of_nonneg (by omega)]; omega
  have g2 : ¬ q < r := by rw [own_lt64]; omega
  have g3 : q - r < (4096 : Int64) := by rw [own_lt64, Jvm.Kit.i64_sub (by omega) (by omega), kP]; omega
  have n1 : ¬ (1 : Int32) = 0 := by decide
  simp only [if_pos g1, if_neg g2, if_pos g3, if_neg n1]
set_option maxRecDepth 65536 in
set_option maxHeartbeats 40000000 in
theorem comes_1 {Post : Tables → Env → Array Value → State → Outcome → State → Prop} (hpost : ∀ tb e args s v u, (limb_1_1.after args s (.returned v) u = true ∧ limb_1_2.after args s (.returned v) u = true ∧ True) → FrameEnd s (.returned v) u (Jvm.fieldLocs frame_1_writes args s ++ Jvm.arrayLocs frame_1_arrays args s ++ Jvm.staticLocs frame_1_statics s) 0 0 → Post tb e args s (.returned v) u) :
    ArmFor flags0 classFile x code maxLocals ret World_1 tables_1 room_1 Calls_1 rest_1 Pre_1 Post := by
  intro l hfl _ _ p e ha hc hk s m args below hf hA hF happ hP
  obtain ⟨hcalls, hrest, hpre⟩ := hP
  obtain ⟨-, -, -, hnamed, -, -, -, hat⟩ := (Spec.applies_iff hf).mp happ
  obtain ⟨hg, hn⟩ := and_e (Cond.before_iff.mp (show (Jvm.Cond.and given_1 narrow_1).before args s = true from hpre))
  obtain ⟨hcount, hr0⟩ := and_e hg
  obtain ⟨w0, w1, rfl⟩ : ∃ w0 w1 : Value, args = #[w0, w1] := by
    have hs : args.size = 2 := by simpa [Cond.value, given_1] using hcount
    obtain ⟨L⟩ := args
    match L, hs with
    | [w0, w1], _ => exact ⟨w0, w1, rfl⟩
  have hw := fun d (hd : d ∈ tables_1) => atoms_spec (ws := Jvm.Cond.code x code maxLocals ret :: tables_1) hat d (List.mem_cons_of_mem _ hd)
  obtain ⟨ha0, hr1⟩ := and_e hr0
  obtain ⟨i0, ev0⟩ := isL_v ha0
  obtain rfl : w0 = (.long i0) := Option.some.inj ev0
  obtain ⟨i1, ev1⟩ := isL_v hr1
  obtain rfl : w1 = (.long i1) := Option.some.inj ev1
  obtain ⟨n, o, h1, h2, h3, _, L, rfl, ⟨rfl, N⟩, hq⟩ := own_m0 l s _ hw tables_1 i0 i1 s.heap.size s.heap (Nat.le_refl _) p e ha hc hk s m _ below hf ((Spec.applies_iff_loose hf).mp happ).1 ⟨rfl, State.Warmed39.refl s, rfl⟩ trivial
  rw [own_law i0 i1] at h3 hq
  refine ⟨n, _, h1, h2, h3, hpost _ _ _ _ _ _ ⟨Cond.after_iff.mpr rfl, Cond.after_iff.mpr (eq_i res_at (Term.int_eval (1)) rfl), trivial⟩ ⟨hq.1, hq.2.1, (hq.2.2.sift fun y hy => Or.inr (N y hy)).mono (by decide) (by decide)⟩⟩
theorem main_1_1 : Claimed_1_1 := comes_1 fun _ _ _ _ _ _ h hF => ⟨h.1, hF⟩
theorem main_1_2 : Claimed_1_2 := comes_1 fun _ _ _ _ _ _ h hF => ⟨h.2.1, hF⟩
end Jvm.Pilot.@@N@@
namespace Jvm.Pilot.@@N@@
open Jvm Jvm.ClassFile Sem Op Lib Jvm.Free Jvm.Stand Jvm.Pilot.@@N@@.Jvm.D
/-! MADE BY PROGRAM (witnessworld.py) out of the Statement's table words and the real class files: 11 classes; the members and pool entries that the words name. The judged class is class 1, her method 1. -/
namespace start1
open Jvm.ClassFile
def u (s : String) : CpInfo := .utf8 (stringToUtf16 s)
/-- a pool by its gaps: so many unusable entries, then the entry; so many at the end -/
def gap : Nat → List CpInfo → List CpInfo
  | 0, r => r
  | n + 1, r => .unusable :: gap n r
def poolList (es : List (Nat × CpInfo)) (last : Nat) : List CpInfo := es.foldr (fun e r => gap e.1 (e.2 :: r)) (gap last [])
def pool (es : List (Nat × CpInfo)) (last : Nat) : Array CpInfo := ⟨poolList es last⟩
def fileOf (pool : Array CpInfo) (this : Nat) (attrs : Array Attribute := #[]) (ms : Array MethodInfo := #[]) (fl : Nat := 33) (sup : Nat := 0) (ifs : Array Nat := #[]) (fds : Array FieldInfo := #[]) : ClassFile where
  minorVersion := 0
  majorVersion := 65
  constantPool := pool
  accessFlags := fl
  thisClass := this
  superClass := sup
  interfaces := ifs
  fields := fds
  methods := ms
  attributes := attrs
def plain (name : String) (sup : Option ClassId) : Class where
  name := name
  kind := .ordinary
  loader := none
  accessFlags := 33
  super := sup
  interfaces := #[]
  cf := none
  fields := #[]
  methods := #[]
  instanceTypes := #[]
  staticTypes := #[]
  resolved := #[]
  callSites := []
  init := .initialized
  statics := none
  mirror := none

def pool0 : Array CpInfo := pool [(5, u "<init>"), (0, u "()V"), (1, .class_ 10), (1, u "java/lang/Object")] 113

def k0m0 : Method := { name := "<init>", desc := "()V", sig := { parameters := [], returnType := none }, accessFlags := 1, code := none }
/-- java/lang/Object -/
def k0 : Class := { plain "java/lang/Object" none with
  accessFlags := 33
  interfaces := #[]
  cf := some (fileOf pool0 8 #[] #[{ accessFlags := 1, nameIndex := 5, descriptorIndex := 6, attributes := #[] }] 33 0 #[] #[])
  fields := #[]
  methods := #[k0m0]
  instanceTypes := #[]
  staticTypes := #[]
  resolved := Array.replicate 124 none
  statics := none }

def pool1 : Array CpInfo := pool [(2, .class_ 4), (1, u "java/lang/Object"), (0, u "<init>"), (0, u "()V"), (0, .long 72057594037927935), (1, .long 288230376151711743), (1, .methodref 12 13), (0, .class_ 14), (0, .nameAndType 15 16), (0, u "com/example/keystead/keystead/DumpWriter"), (0, u "mapSize"), (0, u "(JJ)J"), (0, .long 4), (1, .long 12), (1, .long 1048576), (1, .long 4096), (1, .class_ 26), (0, u "com/example/keystead/keystead/DumpWriterMapSizePinLaw"), (2, u "law"), (0, u "(JJ)Z")] 3

def k1m0 : Method := { name := "<init>", desc := "()V", sig := { parameters := [], returnType := none }, accessFlags := 1, code := none }
def k1c1 : Code := { maxStack := 8, maxLocals := 15, code := code, exceptionTable := #[], attributes := #[] }
def k1m1 : Method := { name := "law", desc := "(JJ)Z", sig := { parameters := [.long, .long], returnType := some .boolean }, accessFlags := 9, code := some k1c1 }
/-- com/example/keystead/keystead/DumpWriterMapSizePinLaw -/
def k1 : Class := { plain "com/example/keystead/keystead/DumpWriterMapSizePinLaw" (some 0) with
  accessFlags := 49
  interfaces := #[]
  cf := some (fileOf pool1 25 #[] #[{ accessFlags := 1, nameIndex := 5, descriptorIndex := 6, attributes := #[] }, { accessFlags := 9, nameIndex := 29, descriptorIndex := 30, attributes := #[] }] 49 2 #[] #[])
  fields := #[]
  methods := #[k1m0, k1m1]
  instanceTypes := #[]
  staticTypes := #[]
  resolved := Array.replicate 34 none
  statics := none }

def pool2 : Array CpInfo := pool [(1, .class_ 2), (0, u "java/lang/AutoCloseable"), (0, .class_ 4), (0, u "java/lang/Object")] 7

/-- java/lang/AutoCloseable -/
def k2 : Class := { plain "java/lang/AutoCloseable" (some 0) with
  accessFlags := 1537
  interfaces := #[]
  cf := some (fileOf pool2 1 #[] #[] 1537 3 #[] #[])
  fields := #[]
  methods := #[]
  instanceTypes := #[]
  staticTypes := #[]
  resolved := Array.replicate 12 none
  statics := none }

def pool3 : Array CpInfo := pool [(1, .class_ 2), (0, u "java/io/Closeable"), (0, .class_ 4), (0, u "java/lang/Object"), (0, .class_ 6), (0, u "java/lang/AutoCloseable")] 7

/-- java/io/Closeable -/
def k3 : Class := { plain "java/io/Closeable" (some 0) with
  accessFlags := 1537
  interfaces := #[2]
  cf := some (fileOf pool3 1 #[] #[] 1537 3 #[5] #[])
  fields := #[]
  methods := #[]
  instanceTypes := #[]
  staticTypes := #[]
  resolved := Array.replicate 14 none
  statics := none }

def pool4 : Array CpInfo := pool [(2, .class_ 4), (1, u "java/lang/Object"), (3, .class_ 10), (1, u "com/example/keystead/keystead/DumpWriter"), (0, u "out"), (0, u "Ljava/io/OutputStream;"), (2, u "printable"), (0, u "Z"), (20, u "spoolDirectory"), (0, u "Ljava/nio/file/Path;"), (19, u "spool"), (0, u "Ljava/nio/channels/FileChannel;"), (18, u "pairs"), (0, .long 4), (1, .long 12), (1, .long 1048576), (1, .long 4096), (13, u "entries"), (0, u "J"), (2, u "dataBytes"), (11, u "mapSize"), (0, u "(JJ)J"), (53, u "HEX"), (0, u "[B"), (14, .class_ 187), (0, u "java/io/Closeable"), (0, u "ENTRY_OVERHEAD"), (1, u "LOAD_ROOM"), (0, u "PAGE"), (0, u "SPOOL_BUFFER"), (0, u "I")] 31

def k4c0 : Code := { maxStack := 8, maxLocals := 6, code := prog_24_method_2_code, exceptionTable := #[], attributes := #[] }
def k4m0 : Method := { name := "mapSize", desc := "(JJ)J", sig := { parameters := [.long, .long], returnType := some .long }, accessFlags := 8, code := some k4c0 }
/-- com/example/keystead/keystead/DumpWriter -/
def k4 : Class := { plain "com/example/keystead/keystead/DumpWriter" (some 0) with
  accessFlags := 48
  interfaces := #[3]
  cf := some (fileOf pool4 8 #[] #[{ accessFlags := 8, nameIndex := 115, descriptorIndex := 116, attributes := #[] }] 48 2 #[186] #[{ accessFlags := 26, nameIndex := 170, descriptorIndex := 171, attributes := #[] }, { accessFlags := 26, nameIndex := 188, descriptorIndex := 100, attributes := #[] }, { accessFlags := 26, nameIndex := 190, descriptorIndex := 100, attributes := #[] }, { accessFlags := 26, nameIndex := 191, descriptorIndex := 100, attributes := #[] }, { accessFlags := 26, nameIndex := 192, descriptorIndex := 193, attributes := #[] }, { accessFlags := 18, nameIndex := 11, descriptorIndex := 12, attributes := #[] }, { accessFlags := 18, nameIndex := 15, descriptorIndex := 16, attributes := #[] }, { accessFlags := 18, nameIndex := 37, descriptorIndex := 38, attributes := #[] }, { accessFlags := 18, nameIndex := 58, descriptorIndex := 59, attributes := #[] }, { accessFlags := 18, nameIndex := 78, descriptorIndex := 12, attributes := #[] }, { accessFlags := 2, nameIndex := 99, descriptorIndex := 100, attributes := #[] }, { accessFlags := 2, nameIndex := 103, descriptorIndex := 100, attributes := #[] }])
  fields := #[{ name := "HEX", type := (.array .byte), accessFlags := 26, slot := 0, constantValue := 0 }, { name := "ENTRY_OVERHEAD", type := .long, accessFlags := 26, slot := 1, constantValue := 0 }, { name := "LOAD_ROOM", type := .long, accessFlags := 26, slot := 2, constantValue := 0 }, { name := "PAGE", type := .long, accessFlags := 26, slot := 3, constantValue := 0 }, { name := "SPOOL_BUFFER", type := .int, accessFlags := 26, slot := 4, constantValue := 0 }, { name := "out", type := (.object "java/io/OutputStream"), accessFlags := 18, slot := 0, constantValue := 0 }, { name := "printable", type := .boolean, accessFlags := 18, slot := 1, constantValue := 0 }, { name := "spoolDirectory", type := (.object "java/nio/file/Path"), accessFlags := 18, slot := 2, constantValue := 0 }, { name := "spool", type := (.object "java/nio/channels/FileChannel"), accessFlags := 18, slot := 3, constantValue := 0 }, { name := "pairs", type := (.object "java/io/OutputStream"), accessFlags := 18, slot := 4, constantValue := 0 }, { name := "entries", type := .long, accessFlags := 2, slot := 5, constantValue := 0 }, { name := "dataBytes", type := .long, accessFlags := 2, slot := 6, constantValue := 0 }]
  methods := #[k4m0]
  instanceTypes := #[(.object "java/io/OutputStream"), .boolean, (.object "java/nio/file/Path"), (.object "java/nio/channels/FileChannel"), (.object "java/io/OutputStream"), .long, .long]
  staticTypes := #[(.array .byte), .long, .long, .long, .int]
  resolved := Array.replicate 225 none
  statics := none }

def pool5 : Array CpInfo := pool [(1, u "java/lang/Cloneable"), (0, .class_ 1), (0, u "java/lang/Object"), (0, .class_ 3)] 3

/-- java/lang/Cloneable -/
def k5 : Class := { plain "java/lang/Cloneable" (some 0) with
  accessFlags := 1537
  interfaces := #[]
  cf := some (fileOf pool5 2 #[] #[] 1537 4 #[] #[])
  fields := #[]
  methods := #[]
  instanceTypes := #[]
  staticTypes := #[]
  resolved := Array.replicate 8 none
  statics := none }

def pool6 : Array CpInfo := pool [(1, u "java/io/Serializable"), (0, .class_ 1), (0, u "java/lang/Object"), (0, .class_ 3)] 3

/-- java/io/Serializable -/
def k6 : Class := { plain "java/io/Serializable" (some 0) with
  accessFlags := 1537
  interfaces := #[]
  cf := some (fileOf pool6 2 #[] #[] 1537 4 #[] #[])
  fields := #[]
  methods := #[]
  instanceTypes := #[]
  staticTypes := #[]
  resolved := Array.replicate 8 none
  statics := none }

/-- the primitive byte -/
def k7 : Class := { plain "byte" none with kind := .primitive 'B', accessFlags := 0x411 }
/-- [B -/
def k8 : Class := { plain "[B" (some 0) with kind := .array 7 .byte, interfaces := #[5, 6], accessFlags := 1041 }

/-- the primitive int -/
def k9 : Class := { plain "int" none with kind := .primitive 'I', accessFlags := 0x411 }
/-- [I -/
def k10 : Class := { plain "[I" (some 0) with kind := .array 9 .int, interfaces := #[5, 6], accessFlags := 1041 }

def heap : Heap := #[]
def classes : Array Class := #[k0, k1, k2, k3, k4, k5, k6, k7, k8, k9, k10]
def interned : List (Array UInt16 × Addr) := []
def slotsUsed : Nat := 0
def theMethod : MethodId := ⟨1, 1⟩
def args0 : Array Value := #[.long 5, .long 7]
def aboutOver (below : List Frame) : State where
  vm := { classes := classes, interned := interned.toArray }
  heap := heap
  slotsUsed := slotsUsed
  threads := #[{ frames := .invoking theMethod args0 :: below }]
def below0 : List Frame := [.native { method := ⟨0, 0⟩, args := #[] }]
def about1 : State := aboutOver below0
def p0 : Program := .bare "" "" ""
def e0 : Env := launch0.env 0 0 0
theorem w_frames : about1.frames = Frame.invoking theMethod args0 :: below0 := rfl
set_option maxRecDepth 65536 in
theorem w_args : argsFit about1.vm theMethod args0 = true := by decide +kernel
set_option maxRecDepth 65536 in
theorem w_heap : heapFits about1 = true := by decide +kernel
set_option maxRecDepth 65536 in
theorem w_runnable : about1.curStatus? = some .runnable := by decide +kernel
set_option maxRecDepth 65536 in
theorem w_alone : about1.alone = true := by decide +kernel
set_option maxRecDepth 65536 in
theorem w_named : about1.methodNamed? x = some theMethod := by decide +kernel
set_option maxRecDepth 65536 in
theorem w_hears : about1.hears theMethod below0 = true := by decide +kernel
set_option maxRecDepth 65536 in
theorem w_ripe : about1.ripe theMethod args0 below0 = true := by decide +kernel
theorem w_running : about1.status = .running := rfl
set_option maxRecDepth 65536 in
theorem w_room : about1.hasRoom e0.platform room_1 = true :=
  launch0.hasRoom_least _ room_1 (by decide +kernel) (by decide +kernel) (by decide +kernel) (by decide +kernel) (by decide +kernel) (by decide +kernel)
theorem allAtoms_all (ts : List Jvm.Cond) (a : Array Jvm.Value) (st : Jvm.State) : (allAtoms ts).before a st = ts.all (fun c => c.before a st) := by
  induction ts with
  | nil => rfl
  | cons c t ih =>
    show (Jvm.Cond.and c (allAtoms t)).before a st = _
    rw [Jvm.Cond.before_and, ih, List.all_cons]
def words1 : List Jvm.Cond := Jvm.Cond.code x code maxLocals ret :: tables_1
/-- a 'code' word, met by the world's own term for the bytes: nothing is compared byte by byte -/
theorem code_word {y : MethodName} {bytes : ByteArray} {mx : Nat} {rt : Option FieldType} {a : Array Value} {s : State} {m : MethodId} {meth : Method} {c : Code} (h1 : s.methodNamed? y = some m) (h2 : s.vm.method? m = some meth) (h3 : meth.code = some c) (h4 : c.code = bytes)
    (h5 : (c.maxLocals == mx && c.exceptionTable.isEmpty && decide (c.maxStack ≤ mostOperands) && decide (meth.sig.returnType = rt) && !meth.locks && decide (parseMethodDescriptor y.desc = some meth.sig)) = true) : (Jvm.Cond.code y bytes mx rt).before a s = true := by
  simp only [Bool.and_eq_true, beq_iff_eq, Bool.not_eq_true', decide_eq_true_eq] at h5
  obtain ⟨⟨⟨⟨⟨g1, g2⟩, g3⟩, g4⟩, g5⟩, g6⟩ := h5
  simp [Cond.before, Cond.holds, Cond.value, h1, h2, h3, h4, g1, g2, g3, g4, g5, g6]
def isCode : Jvm.Cond → Bool
  | .code _ _ _ _ => true
  | _ => false
theorem all_split {L : List Jvm.Cond} {P : Jvm.Cond → Bool} (h1 : L.all (fun c => isCode c || P c) = true) (h2 : ∀ c ∈ L.filter isCode, P c = true) : L.all P = true := by
  refine List.all_eq_true.mpr fun c hc => ?_
  have h := List.all_eq_true.mp h1 c hc
  rcases Bool.eq_false_or_eq_true (isCode c) with hi | hi
  · exact h2 c (List.mem_filter.mpr ⟨hc, hi⟩)
  · simpa [hi] using h
set_option maxRecDepth 65536 in
theorem w_c0 : (Jvm.Cond.code x code maxLocals ret).before args0 about1 = true := code_word (m := ⟨1, 1⟩) (meth := k1m1) (c := k1c1) (by decide +kernel) rfl rfl rfl (by decide +kernel)
set_option maxRecDepth 65536 in
theorem w_c1 : (Jvm.Cond.code ({ cls := "com/example/keystead/keystead/DumpWriter", name := "mapSize", desc := "(JJ)J" } : Jvm.MethodName) prog_24_method_2_code (6 : Nat) (Option.some Jvm.ClassFile.FieldType.long)).before args0 about1 = true := code_word (m := ⟨4, 0⟩) (meth := k4m0) (c := k4c0) (by decide +kernel) rfl rfl rfl (by decide +kernel)
def codes1 : List Jvm.Cond := [Jvm.Cond.code x code maxLocals ret, Jvm.Cond.code ({ cls := "com/example/keystead/keystead/DumpWriter", name := "mapSize", desc := "(JJ)J" } : Jvm.MethodName) prog_24_method_2_code (6 : Nat) (Option.some Jvm.ClassFile.FieldType.long)]
set_option maxRecDepth 65536 in
theorem codes_eq : words1.filter isCode = codes1 := rfl
theorem w_codes : ∀ c ∈ words1.filter isCode, c.before args0 about1 = true := by
  rw [codes_eq]
  intro c hc
  simp only [codes1, List.mem_cons, List.not_mem_nil, or_false] at hc
  rcases hc with rfl | rfl
  · exact w_c0
  · exact w_c1
set_option maxRecDepth 65536 in
theorem w_t1 : words1.all (fun c => isCode c || c.before args0 about1) = true := by decide +kernel
theorem w_tables : (allAtoms (Jvm.Cond.code x code maxLocals ret :: tables_1)).before args0 about1 = true := by
  rw [allAtoms_all]
  show words1.all (fun c => c.before args0 about1) = true
  refine all_split ?_ w_codes
  rw [w_t1]
set_option maxRecDepth 65536 in
theorem w_case : (Jvm.Cond.and given_1 narrow_1).before args0 about1 = true := by decide +kernel
theorem w_applies : (headSpec (Jvm.Cond.code x code maxLocals ret :: tables_1) room_1).applies x e0.platform about1 = true :=
  (Spec.applies_iff w_frames).mpr ⟨w_running, w_runnable, w_alone, w_named, w_hears, w_ripe, w_room, w_tables⟩
theorem atStart : AtStart classFile x code maxLocals ret World_1 tables_1 room_1 Calls_1 rest_1 Pre_1 launch0 p0 e0 about1 theMethod args0 below0 :=
  ⟨lists_1, trivial, launch0.admits_env _ _ _, launch0.least_env, fairChoices_fair.cas, fairChoices_fair.clock, w_frames, w_args, w_heap, w_applies, trivial, trivial, w_case⟩
end start1
theorem witness_1 : WitnessClaimed_1 := ⟨start1.p0, start1.e0, start1.about1, start1.theMethod, start1.args0, start1.below0, start1.atStart⟩
end Jvm.Pilot.@@N@@
