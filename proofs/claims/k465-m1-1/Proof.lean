import JvmDerived
import JvmDerived.Pilot.@@N@@Statement
import JvmDerived.Pilot.@@N@@Code
set_option linter.unusedVariables false
set_option linter.unusedSimpArgs false
@@BLOCK:NumsL.lean.txt@@
namespace Jvm.RoadKit
open Sem ClassFile Op Lib Jvm.Stand Jvm.Free Jvm.LawKit
section New
variable {p : Program} {l : Launch} {e : Env} {R : Room} {s : State} {m : MethodId} {args : Array Value} {below : List Frame} {meth : Method} {c : Code} {T : State} {locs : List Loc} {cells slots : Nat}
theorem retI (X : Stand p l e R s m args below meth c T locs cells slots) (hx : p.tables.exec = Jvm.exec) {pc : Nat} {Ls : Array Slot} {z : Int32} {rest : List Value} (hret : meth.sig.returnType = some .int) (hd : decode c.code pc = .ok (.ireturn, 1)) {fs : List Frame}
    (hl : ∀ (f : JFrame) (acts : List Action), f.method = m → f.locked = none → f.entered = [] → (doReturn e (T.setTop f) acts (some (.int z))).1 = T.setFrames fs) : Steps p.tables e below (T.setTop (mkF m pc Ls (.int z :: rest))) (T.setFrames fs) := by
  have hm' : T.vm.method? m = some meth := X.method'
  have hn : narrow .int (.int z) = .int z := rfl
  show Steps p.tables e below (T.setTop { method := m, pc := pc, locals := Ls, stack := _ :: rest, locked := none }) _
  jvm_step X.here [X.here.top, hx, hd, hm', hret, hn]
  first | (intro acts; rw [hl _ acts rfl rfl rfl]) | rw [hl _ _ rfl rfl rfl]
  exact Steps.refl _
/-- the run from A comes to a return of which F says the value, the heap and the written places -/
def own_Goes (p : Program) (e : Env) (below : List Frame) (s : State) (F : Option Value → Heap → List Loc → Prop) (k n : Nat) (A : State) : Prop :=
  ∃ s₂ o, Steps p.tables e below A s₂ ∧ s₂.status = .running ∧ Ended s₂ below o ∧ ∃ v L, o = .returned v ∧ F v s₂.heap L ∧ FrameEnd s o s₂ L k n
variable {F : Option Value → Heap → List Loc → Prop} {k n : Nat}
theorem own_Goes.step {A B : State} (h : ∀ t, Steps p.tables e below B t → Steps p.tables e below A t) (g : own_Goes p e below s F k n B) : own_Goes p e below s F k n A := by
  obtain ⟨s₂, o, h1, h2⟩ := g
  exact ⟨s₂, o, h _ h1, h2⟩
theorem own_endI (X : Stand p l e R s m args below meth c T locs cells slots) (hx : p.tables.exec = Jvm.exec) (hlk : meth.locks = false) {pc : Nat} {Ls : Array Slot} {z : Int32} {rest : List Value} (hret : meth.sig.returnType = some .int) (hd : decode c.code pc = .ok (.ireturn, 1)) (hF : F (some (.int z)) T.heap locs) (hk : cells ≤ k) (hn : slots ≤ n) :
    own_Goes p e below s F k n (T.setTop (mkF m pc Ls (.int z :: rest))) := by
  obtain ⟨fs, hr, hrun, hended, hW, hsame⟩ := X.leave (v := some (.int z)) (fun h => by rw [hret] at h; cases h) hlk
  exact ⟨_, _, retI X hx hret hd hr, hrun, hended, _, _, rfl, hF, ⟨_, rfl⟩, hW, hsame.mono hk hn⟩
theorem own_endN (X : Stand p l e R s m args below meth c T locs cells slots) (hx : p.tables.exec = Jvm.exec) (hlk : meth.locks = false) {pc : Nat} {Ls : Array Slot} {z : Int32} {t : FieldType} {rest : List Value} (hret : meth.sig.returnType = some t) (ht : t = .boolean ∨ t = .byte ∨ t = .char ∨ t = .short) (hd : decode c.code pc = .ok (.ireturn, 1)) (hF : F (some (.int (nar t z))) T.heap locs) (hk : cells ≤ k) (hn : slots ≤ n) :
    own_Goes p e below s F k n (T.setTop (mkF m pc Ls (.int z :: rest))) := by
  obtain ⟨fs, hr, hrun, hended, hW, hsame⟩ := X.leave (v := some (.int (nar t z))) (fun h => by rw [hret] at h; cases h) hlk
  exact ⟨_, _, retN X hx hret ht hd hr, hrun, hended, _, _, rfl, hF, ⟨_, rfl⟩, hW, hsame.mono hk hn⟩
theorem own_endJ (X : Stand p l e R s m args below meth c T locs cells slots) (hx : p.tables.exec = Jvm.exec) (hlk : meth.locks = false) {pc : Nat} {Ls : Array Slot} {z : Int64} (hret : meth.sig.returnType = some .long) (hd : decode c.code pc = .ok (.lreturn, 1)) (hF : F (some (.long z)) T.heap locs) (hk : cells ≤ k) (hn : slots ≤ n) :
    own_Goes p e below s F k n (T.setTop (mkF m pc Ls [.long z])) := by
  obtain ⟨fs, hr, hrun, hended, hW, hsame⟩ := X.leave (v := some (.long z)) (fun h => by rw [hret] at h; cases h) hlk
  exact ⟨_, _, X.lreturnOut hx hret hd hr, hrun, hended, _, _, rfl, hF, ⟨_, rfl⟩, hW, hsame.mono hk hn⟩
theorem own_endV (X : Stand p l e R s m args below meth c T locs cells slots) (hx : p.tables.exec = Jvm.exec) (hlk : meth.locks = false) {pc : Nat} {Ls : Array Slot} (hret : meth.sig.returnType = none) (hd : decode c.code pc = .ok (.return_, 1)) (hF : F none T.heap locs) (hk : cells ≤ k) (hn : slots ≤ n) :
    own_Goes p e below s F k n (T.setTop (mkF m pc Ls [])) := by
  obtain ⟨fs, hr, hrun, hended, hW, hsame⟩ := X.leave (v := none) (fun _ => rfl) hlk
  exact ⟨_, _, X.returnOut hx hret hd hr, hrun, hended, _, _, rfl, hF, ⟨_, rfl⟩, hW, hsame.mono hk hn⟩
theorem own_endA (X : Stand p l e R s m args below meth c T locs cells slots) (hx : p.tables.exec = Jvm.exec) (hlk : meth.locks = false) {pc : Nat} {Ls : Array Slot} {w : Value} {t : FieldType} (hw : w.isRef = true) (hret : meth.sig.returnType = some t) (ht : t.isReference = true) (hd : decode c.code pc = .ok (.areturn, 1)) (hF : F (some w) T.heap locs) (hk : cells ≤ k) (hn : slots ≤ n) :
    own_Goes p e below s F k n (T.setTop (mkF m pc Ls [w])) := by
  obtain ⟨fs, hr, hrun, hended, hW, hsame⟩ := X.leave (v := some w) (fun h => by rw [hret] at h; cases h) hlk
  exact ⟨_, _, X.areturnOut hx hw hret ht hd hr, hrun, hended, _, _, rfl, hF, ⟨_, rfl⟩, hW, hsame.mono hk hn⟩
theorem own_lrem (x y : Int64) : x - x / y * y = x % y := by
  refine Int64.toInt_inj.mp ?_
  rw [Jvm.Kit.i64_rem, Int64.toInt_mod]
theorem own_lremM {g : JFrame} {target : State} (X : Stand p l e R s m args below meth c T locs cells slots) (hx : p.tables.exec = Jvm.exec) (hg : g.method = m) {x y : Int64} {rest : List Value} (hd : decode c.code g.pc = .ok (.lrem, 1)) (hs : g.stack = .long y :: .long x :: rest) (hy : y ≠ 0)
    (hr : Steps p.tables e below (T.setTop { g with pc := g.pc + 1, stack := .long (x % y) :: rest }) target) : Steps p.tables e below (T.setTop g) target :=
  XT.lrem X.here hx hg hd hs hy (by rw [own_lrem]; exact hr)
/-- the three calls, by a contract in this family, carried forward -/
theorem own_stat {Z : State} {a0 : Array Value} {h : Heap} (X : Stand p l e R s m args below meth c T locs cells slots) (hx : p.tables.exec = Jvm.exec) (hZ : Z.Warmed39 s.vm) (eT : T.heap = h) {own : String} {index : Nat} {y : MethodName} {bytes : ByteArray} {maxL : Nat} {ret : Option FieldType} {rm : Room} {W : Nat} {argsL rest : List Value} {Q : Option Value → Heap → List Loc → Prop}
    (hown : s.vm.findClass own = some m.cls) (wl : (Cond.methodLink own index y).before a0 Z = true) (wst : (Cond.static y).before a0 Z = true) (wi : (Cond.initialized y.cls).before a0 Z = true) (wc : (Cond.code y bytes maxL ret).before a0 Z = true) (hy : y.cls ≠ "java/lang/invoke/MethodHandle" ∧ y.cls ≠ "java/lang/invoke/VarHandle")
    (hM : MetFree l y (head1 [Cond.code y bytes maxL ret] rm) (fun a U => a = argsL.toArray ∧ Z.Warmed39 U.vm ∧ U.heap = h) (fun _ _ _ _ _ => True) (fun _ U o U' => ∃ w L, o = .returned w ∧ Q w U'.heap L ∧ FrameEnd U o U' L rm.cells rm.slots))
    (hf : rm.frames + 1 ≤ R.frames) (hl : W + (maxL + 11) + rm.locals ≤ R.locals) (hcells : cells + rm.cells ≤ R.cells) (hslots : slots + rm.slots ≤ R.slots)
    {g : JFrame} (hg : g.method = m) (hsize : g.locals.size = c.maxLocals) (hlen : ∀ sig, parseMethodDescriptor y.desc = some sig → argsL.length = sig.parameters.length) (hstack : g.stack = argsL.reverse ++ rest) (hW : 2 * g.monitorRoom + (rest.map fun v => v.category).sum ≤ W) (hdg : decode c.code g.pc = .ok (.invokestatic index, 3)) :
    ∃ w T' L, Q w T'.heap L ∧ Stand p l e R s m args below meth c T' (locs ++ L) (cells + rm.cells) (slots + rm.slots) ∧ ∀ t, Steps p.tables e below (T'.setTop { g with pc := g.pc + 3, stack := w.toList ++ rest }) t → Steps p.tables e below (T.setTop g) t := by
  have hB := backOf (R := R) (p := p) (e := e) (below := below) (args := args) (len := 3) (W := W) (Q := Q) hM hZ wc wi hf hl
  obtain ⟨w, vm₁, ⟨U, Lc, k1, n1⟩, -, X', ⟨L, hQ, hL, hC, hS⟩, st⟩ := Jvm.LawKit.callS X hx (y := y) hown (mvT hZ wl) (mvT hZ wst) (mvT hZ wi) (mvT hZ wc) hy hB (g := g) hg hsize hlen hstack hW hdg (fun _ _ => ⟨rfl, eT, hcells, hslots⟩)
  dsimp only [Pt.U, Pt.locs, Pt.cells, Pt.slots] at X' hQ hL hC hS st
  subst hL hC hS
  exact ⟨w, U, L, hQ, X', st⟩
theorem own_spec {Z : State} {a0 : Array Value} {h : Heap} (X : Stand p l e R s m args below meth c T locs cells slots) (hx : p.tables.exec = Jvm.exec) (hZ : Z.Warmed39 s.vm) (eT : T.heap = h) {own : String} {index : Nat} {y : MethodName} {bytes : ByteArray} {maxL : Nat} {rm : Room} {W : Nat} {a : Addr} {argsL rest : List Value} {Q : Option Value → Heap → List Loc → Prop}
    (hy1 : y.name = "<init>") (hown : s.vm.findClass own = some m.cls) (wl : (Cond.methodLink own index y).before a0 Z = true) (wst : (Cond.instanceMethod y).before a0 Z = true) (wi : (Cond.initialized y.cls).before a0 Z = true) (wc : (Cond.code y bytes maxL none).before a0 Z = true) (hy : y.cls ≠ "java/lang/invoke/MethodHandle" ∧ y.cls ≠ "java/lang/invoke/VarHandle")
    (hM : MetFree l y (head1 [Cond.code y bytes maxL none] rm) (fun b U => b = (.ref a :: argsL).toArray ∧ Z.Warmed39 U.vm ∧ U.heap = h) (fun _ _ _ _ _ => True) (fun _ U o U' => ∃ w L, o = .returned w ∧ Q w U'.heap L ∧ FrameEnd U o U' L rm.cells rm.slots))
    (hf : rm.frames + 1 ≤ R.frames) (hl : W + (maxL + 11) + rm.locals ≤ R.locals) (hcells : cells + rm.cells ≤ R.cells) (hslots : slots + rm.slots ≤ R.slots)
    {g : JFrame} (hg : g.method = m) (hsize : g.locals.size = c.maxLocals) (hlen : ∀ sig, parseMethodDescriptor y.desc = some sig → argsL.length = sig.parameters.length) (hstack : g.stack = argsL.reverse ++ .ref a :: rest) (hW : 2 * g.monitorRoom + (rest.map fun v => v.category).sum ≤ W) (hdg : decode c.code g.pc = .ok (.invokespecial index, 3)) :
    ∃ w T' L, Q w T'.heap L ∧ Stand p l e R s m args below meth c T' (locs ++ L) (cells + rm.cells) (slots + rm.slots) ∧ ∀ t, Steps p.tables e below (T'.setTop { g with pc := g.pc + 3, stack := w.toList ++ rest }) t → Steps p.tables e below (T.setTop g) t := by
  have hB := backOf (R := R) (p := p) (e := e) (below := below) (args := args) (len := 3) (W := W) (Q := Q) hM hZ wc wi hf hl
  obtain ⟨w, vm₁, ⟨U, Lc, k1, n1⟩, -, X', ⟨L, hQ, hL, hC, hS⟩, st⟩ := X.specialBack hx (y := y) hy1 hown (mvT hZ wl) (mvT hZ wst) (mvT hZ wc) hy hB (g := g) hg hsize (Steps.refl _) (a := a) hlen hstack hW hdg (fun _ _ => ⟨rfl, eT, hcells, hslots⟩)
  dsimp only [Pt.U, Pt.locs, Pt.cells, Pt.slots] at X' hQ hL hC hS st
  subst hL hC hS
  exact ⟨w, U, L, hQ, X', fun t k => st.trans k⟩
theorem own_virt {Z : State} {a0 : Array Value} {h : Heap} (X : Stand p l e R s m args below meth c T locs cells slots) (hx : p.tables.exec = Jvm.exec) (hZ : Z.Warmed39 s.vm) (eT : T.heap = h) {own C : String} {index : Nat} {y : MethodName} {bytes : ByteArray} {maxL : Nat} {ret : Option FieldType} {rm : Room} {W : Nat} {a : Addr} {argsL rest : List Value} {Q : Option Value → Heap → List Loc → Prop}
    (E : Exa Z h a C) (hown : s.vm.findClass own = some m.cls) (wl : (Cond.methodLink own index y).before a0 Z = true) (wd : (Cond.declares y).before a0 Z = true) (ws : (Cond.selects C y y).before a0 Z = true) (wst : (Cond.instanceMethod y).before a0 Z = true) (wi : (Cond.initialized y.cls).before a0 Z = true) (wc : (Cond.code y bytes maxL ret).before a0 Z = true) (hy : y.cls ≠ "java/lang/invoke/MethodHandle" ∧ y.cls ≠ "java/lang/invoke/VarHandle")
    (hM : MetFree l y (head1 [Cond.code y bytes maxL ret] rm) (fun b U => b = (.ref a :: argsL).toArray ∧ Z.Warmed39 U.vm ∧ U.heap = h) (fun _ _ _ _ _ => True) (fun _ U o U' => ∃ w L, o = .returned w ∧ Q w U'.heap L ∧ FrameEnd U o U' L rm.cells rm.slots))
    (hf : rm.frames + 1 ≤ R.frames) (hl : W + (maxL + 11) + rm.locals ≤ R.locals) (hcells : cells + rm.cells ≤ R.cells) (hslots : slots + rm.slots ≤ R.slots)
    {g : JFrame} (hg : g.method = m) (hsize : g.locals.size = c.maxLocals) (hlen : ∀ sig, parseMethodDescriptor y.desc = some sig → argsL.length = sig.parameters.length) (hstack : g.stack = argsL.reverse ++ .ref a :: rest) (hW : 2 * g.monitorRoom + (rest.map fun v => v.category).sum ≤ W) (hdg : decode c.code g.pc = .ok (.invokevirtual index, 3)) :
    ∃ w T' L, Q w T'.heap L ∧ Stand p l e R s m args below meth c T' (locs ++ L) (cells + rm.cells) (slots + rm.slots) ∧ ∀ t, Steps p.tables e below (T'.setTop { g with pc := g.pc + 3, stack := w.toList ++ rest }) t → Steps p.tables e below (T.setTop g) t := by
  have hB := backOf (R := R) (p := p) (e := e) (below := below) (args := args) (len := 3) (W := W) (Q := Q) hM hZ wc wi hf hl
  obtain ⟨cq, kq, qa, qb, qc⟩ := isOf hZ eT E
  obtain ⟨w, vm₁, ⟨U, Lc, k1, n1⟩, -, X', ⟨L, hQ, hL, hC, hS⟩, st⟩ := X.virtualBack hx (y := y) (z := y) hown (mvT hZ wl) (mvT hZ wd) (notFace_of_selects (args := #[]) (mvT hZ ws)) (mvT hZ ws) (mvT hZ wst) hy hB qa qc (g := g) hg hsize (Steps.refl _) hlen hstack hW hdg (fun _ _ => ⟨rfl, eT, hcells, hslots⟩)
  dsimp only [Pt.U, Pt.locs, Pt.cells, Pt.slots] at X' hQ hL hC hS st
  subst hL hC hS
  exact ⟨w, U, L, hQ, X', fun t k => st.trans k⟩
/-- a call that left nothing behind -/
theorem own_clean {h : Heap} {w v : Option Value} {T' : State} {L : List Loc} {k0 n0 : Nat} (q : w = v ∧ L = [] ∧ T'.heap = h) (X : Stand p l e R s m args below meth c T' (locs ++ L) (cells + k0) (slots + n0)) (hk : k0 = 0) (hn : n0 = 0) : T'.heap = h ∧ Stand p l e R s m args below meth c T' locs cells slots := by
  obtain ⟨-, rfl, hh⟩ := q
  subst hk hn
  rw [List.append_nil] at X
  exact ⟨hh, X⟩
theorem own_nin {a b : Addr} (q : b ≠ a) : b ∉ [a] := fun h => q (List.mem_singleton.mp h)
theorem own_kt {h0 : Heap} {ws : List Addr} {a : Addr} (q : a ∈ ws ∨ h0.size ≤ a) : ∀ x ∈ [a], x ∈ ws ∨ h0.size ≤ x := fun x hx => by
  cases List.mem_singleton.mp hx; exact q
end New
end Jvm.RoadKit
namespace Jvm.Pilot.@@N@@
open Jvm Jvm.ClassFile Sem Op Lib Jvm.Free Jvm.Stand Jvm.LawKit Jvm.RoadKit Bundle Jvm.Pilot.@@N@@.Jvm.D
/-! plain facts on ints and longs -/
theorem own_char16 (u : UInt16) : (u.toUInt32.toInt32).toInt = u.toNat := by
  have h := u.toNat_lt
  show BitVec.toInt u.toUInt32.toBitVec = _
  rw [BitVec.toInt_eq_toNat_of_lt (by simp; omega)]
  simp
theorem own_char (y : Int32) : 0 ≤ (y.toUInt32.toUInt16.toUInt32.toInt32).toInt ∧ (y.toUInt32.toUInt16.toUInt32.toInt32).toInt < 65536 := by
  rw [own_char16]
  have h := y.toUInt32.toUInt16.toNat_lt
  omega
theorem own_fin32 {P : Int32 → Prop} (n : Nat) (h : ∀ k : Fin n, P (Int32.ofNat k)) (c : Int32) (h0 : 0 ≤ c.toInt) (h1 : c.toInt < n) : P c := by
  have e : c = Int32.ofNat c.toInt.toNat := by
    apply Int32.toInt_inj.mp
    have hb := c.toInt_lt
    rw [Int32.toInt_ofNat_of_lt (by omega)]
    omega
  rw [e]
  exact h ⟨c.toInt.toNat, by omega⟩
theorem own_lt32 (x y : Int32) : (x < y) ↔ x.toInt < y.toInt := Int32.lt_iff_toInt_lt
theorem own_eq32 (x y : Int32) : (x = y) ↔ x.toInt = y.toInt := Int32.toInt_inj.symm
theorem own_lt64 (x y : Int64) : (x < y) ↔ x.toInt < y.toInt := Int64.lt_iff_toInt_lt
theorem own_eq64 (x y : Int64) : (x = y) ↔ x.toInt = y.toInt := Int64.toInt_inj.symm
theorem d1_0 : decode prog_48_method_8_code 0 = .ok (.iload_n 1, 1) := by decide +kernel
theorem d1_1 : decode prog_48_method_8_code 1 = .ok (.ifCond .ne 8, 3) := by decide +kernel
theorem d1_4 : decode prog_48_method_8_code 4 = .ok (.iload_n 0, 1) := by decide +kernel
theorem d1_5 : decode prog_48_method_8_code 5 = .ok (.istore_n 2, 1) := by decide +kernel
theorem d1_6 : decode prog_48_method_8_code 6 = .ok (.goto 23, 3) := by decide +kernel
theorem d1_9 : decode prog_48_method_8_code 9 = .ok (.iload_n 1, 1) := by decide +kernel
theorem d1_10 : decode prog_48_method_8_code 10 = .ok (.bipush 20, 2) := by decide +kernel
theorem d1_12 : decode prog_48_method_8_code 12 = .ok (.if_icmp .ge 12, 3) := by decide +kernel
theorem d1_15 : decode prog_48_method_8_code 15 = .ok (.iload_n 0, 1) := by decide +kernel
theorem d1_16 : decode prog_48_method_8_code 16 = .ok (.iconst 5, 1) := by decide +kernel
theorem d1_17 : decode prog_48_method_8_code 17 = .ok (.imul, 1) := by decide +kernel
theorem d1_18 : decode prog_48_method_8_code 18 = .ok (.iload_n 1, 1) := by decide +kernel
theorem d1_19 : decode prog_48_method_8_code 19 = .ok (.imul, 1) := by decide +kernel
theorem d1_20 : decode prog_48_method_8_code 20 = .ok (.istore_n 2, 1) := by decide +kernel
theorem d1_21 : decode prog_48_method_8_code 21 = .ok (.goto 8, 3) := by decide +kernel
theorem d1_24 : decode prog_48_method_8_code 24 = .ok (.iload_n 0, 1) := by decide +kernel
theorem d1_25 : decode prog_48_method_8_code 25 = .ok (.bipush 100, 2) := by decide +kernel
theorem d1_27 : decode prog_48_method_8_code 27 = .ok (.imul, 1) := by decide +kernel
theorem d1_28 : decode prog_48_method_8_code 28 = .ok (.istore_n 2, 1) := by decide +kernel
theorem d1_29 : decode prog_48_method_8_code 29 = .ok (.iload_n 2, 1) := by decide +kernel
theorem d1_30 : decode prog_48_method_8_code 30 = .ok (.ireturn, 1) := by decide +kernel
theorem pn_1 : plainName "com/example/instance_picker/instancepicker/WarmUp" = true := by first | (simp [plainName, overriddenIn]; done) | decide +kernel
theorem pd_1 : parseMethodDescriptor "(II)I" = some ⟨[.int, .int], (some .int)⟩ := by decide +kernel
theorem ef_1 (m : MethodId) (x0 : Int32) (x1 : Int32) : entryFrame m #[(.int x0), (.int x1)] 3 = mkF m 0 #[.val (.int x0), .val (.int x1), .unset] [] := by first | (simp [entryFrame, mkF, argsToLocals, Value.category]; done) | rfl
def own_f1_1 (x0 : Int32) (x1 : Int32) : Int32 := (if x1 = (0 : Int32) then x0 else (if x1 < (20 : Int32) then ((x0 * (5 : Int32)) * x1) else (x0 * (100 : Int32))))
def own_f1 (x0 : Int32) (x1 : Int32) : Int32 := (own_f1_1 x0 x1)
def own_F1 (Z : State) (x0 : Int32) (x1 : Int32)  (h0 : Heap) (v : Option Value) (h : Heap) (L : List Loc) : Prop := v = some (.int (own_f1 x0 x1)) ∧ L = [] ∧ h = h0
set_option maxRecDepth 65536 in
set_option maxHeartbeats 40000000 in
theorem own_m1 (l : Launch) (Z : State) (a0 : Array Value) (hw : ∀ d ∈ tables_1, d.before a0 Z = true) (ws : List Jvm.Cond) (x0 : Int32) (x1 : Int32)  (h0 : Heap)   :
    MetFree l (⟨"com/example/instance_picker/instancepicker/WarmUp", "hundredthsAt", "(II)I"⟩ : MethodName) (head1 (Jvm.Cond.code (⟨"com/example/instance_picker/instancepicker/WarmUp", "hundredthsAt", "(II)I"⟩ : MethodName) prog_48_method_8_code 3 (some .int) :: ws) ({ frames := 0, cells := 0, slots := 0, locals := 0 } : Room)) (fun a U => a = #[(.int x0), (.int x1)] ∧ Z.Warmed39 U.vm ∧ U.heap = h0) (fun _ _ _ _ _ => True) (fun _ U o U' => ∃ v L, o = .returned v ∧ own_F1 Z x0 x1 h0 v U'.heap L ∧ FrameEnd U o U' L ({ frames := 0, cells := 0, slots := 0, locals := 0 } : Room).cells ({ frames := 0, cells := 0, slots := 0, locals := 0 } : Room).slots) := by
  refine MetFree.of_bodySF (plainFor_of_name pn_1) hisR ?_
  intro p e s m args below meth c s₁ Bd hml0 hP hK
  obtain ⟨rfl, hZ, hh⟩ := hP
  have hx := Bd.exec
  have hby := Bd.bytes
  have hml : c.maxLocals = 3 := hml0
  have hown : s.vm.findClass "com/example/instance_picker/instancepicker/WarmUp" = some m.cls := findClass_of_methodNamed Bd.named
  have hnm := (name_of_methodNamed Bd.named Bd.method).1
  have X0 : Stand p l e ({ frames := 0, cells := 0, slots := 0, locals := 0 } : Room) s m #[(.int x0), (.int x1)] below meth c s₁ [] 0 0 := Stand.of_body Bd
  have e0 : s₁.heap = h0 := by rw [← hh, Bd.state]; rfl
  have hgo : own_Goes p e below s (own_F1 Z x0 x1 h0) 0 0 (s₁.setTop (mkF m 0 #[.val (.int x0), .val (.int x1), .unset] [])) := by
    refine own_Goes.step (fun t k => XS.iloadN X0.here hx rfl (hb hby d1_0) rfl k) ?_
    show own_Goes p e below s (own_F1 Z x0 x1 h0) 0 0 (s₁.setTop (mkF m 1 #[.val (.int x0), .val (.int x1), .unset] [(.int x1)]))
    have J3 : own_Goes p e below s (own_F1 Z x0 x1 h0) 0 0 (s₁.setTop (mkF m 29 #[.val (.int x0), .val (.int x1), .val (.int (own_f1_1 x0 x1))] [])) := by
      refine own_Goes.step (fun t k => XS.iloadN X0.here hx rfl (hb hby d1_29) rfl k) ?_
      show own_Goes p e below s (own_F1 Z x0 x1 h0) 0 0 (s₁.setTop (mkF m 30 #[.val (.int x0), .val (.int x1), .val (.int (own_f1_1 x0 x1))] [(.int (own_f1_1 x0 x1))]))
      exact own_endI X0 hx Bd.notSynchronized Bd.returns (hb hby d1_30) ⟨(congrArg (fun z => some (Value.int z)) (show (own_f1_1 x0 x1) = own_f1 x0 x1 from by simp only [own_f1])), rfl, e0⟩ (by decide) (by decide)
    by_cases hc1 : x1 = (0 : Int32)
    · refine own_Goes.step (fun t k => XS.ifNo X0.here hx rfl (hb hby d1_1) rfl (XT.i0_ne_f hc1) k) ?_
      show own_Goes p e below s (own_F1 Z x0 x1 h0) 0 0 (s₁.setTop (mkF m 4 #[.val (.int x0), .val (.int x1), .unset] []))
      refine own_Goes.step (fun t k => XS.iloadN X0.here hx rfl (hb hby d1_4) rfl k) ?_
      show own_Goes p e below s (own_F1 Z x0 x1 h0) 0 0 (s₁.setTop (mkF m 5 #[.val (.int x0), .val (.int x1), .unset] [(.int x0)]))
      refine own_Goes.step (fun t k => XS.istoreN X0.here hx rfl (hb hby d1_5) rfl (l' := #[.val (.int x0), .val (.int x1), .val (.int x0)]) rfl k) ?_
      show own_Goes p e below s (own_F1 Z x0 x1 h0) 0 0 (s₁.setTop (mkF m 6 #[.val (.int x0), .val (.int x1), .val (.int x0)] []))
      refine own_Goes.step (fun t k => XS.goto X0.here hx rfl (pc0 := 6) (pc' := 29) rfl (hb hby d1_6) (by decide) (by decide) k) ?_
      show own_Goes p e below s (own_F1 Z x0 x1 h0) 0 0 (s₁.setTop (mkF m 29 #[.val (.int x0), .val (.int x1), .val (.int x0)] []))
      rw [show (own_f1_1 x0 x1) = x0 from by simp only [own_f1_1, if_pos hc1]] at J3
      exact J3
    · refine own_Goes.step (fun t k => XS.ifYes X0.here hx rfl (pc0 := 1) (pc' := 9) rfl (hb hby d1_1) rfl (XT.i0_ne_t hc1) (by decide) (by decide) k) ?_
      show own_Goes p e below s (own_F1 Z x0 x1 h0) 0 0 (s₁.setTop (mkF m 9 #[.val (.int x0), .val (.int x1), .unset] []))
      refine own_Goes.step (fun t k => XS.iloadN X0.here hx rfl (hb hby d1_9) rfl k) ?_
      show own_Goes p e below s (own_F1 Z x0 x1 h0) 0 0 (s₁.setTop (mkF m 10 #[.val (.int x0), .val (.int x1), .unset] [(.int x1)]))
      refine own_Goes.step (fun t k => XT.bipushV X0.here hx rfl (20 : Int32) (hb hby d1_10) (by decide) k) ?_
      show own_Goes p e below s (own_F1 Z x0 x1 h0) 0 0 (s₁.setTop (mkF m 12 #[.val (.int x0), .val (.int x1), .unset] [(.int (20 : Int32)), (.int x1)]))
      by_cases hc2 : x1 < (20 : Int32)
      · refine own_Goes.step (fun t k => XS.icmpNo X0.here hx rfl (hb hby d1_12) rfl (XT.ii_ge_f hc2) k) ?_
        show own_Goes p e below s (own_F1 Z x0 x1 h0) 0 0 (s₁.setTop (mkF m 15 #[.val (.int x0), .val (.int x1), .unset] []))
        refine own_Goes.step (fun t k => XS.iloadN X0.here hx rfl (hb hby d1_15) rfl k) ?_
        show own_Goes p e below s (own_F1 Z x0 x1 h0) 0 0 (s₁.setTop (mkF m 16 #[.val (.int x0), .val (.int x1), .unset] [(.int x0)]))
        refine own_Goes.step (fun t k => XT.iconstV X0.here hx rfl (5 : Int32) (hb hby d1_16) (by decide) k) ?_
        show own_Goes p e below s (own_F1 Z x0 x1 h0) 0 0 (s₁.setTop (mkF m 17 #[.val (.int x0), .val (.int x1), .unset] [(.int (5 : Int32)), (.int x0)]))
        refine own_Goes.step (fun t k => XS.imul X0.here hx rfl (hb hby d1_17) rfl k) ?_
        show own_Goes p e below s (own_F1 Z x0 x1 h0) 0 0 (s₁.setTop (mkF m 18 #[.val (.int x0), .val (.int x1), .unset] [(.int (x0 * (5 : Int32)))]))
        refine own_Goes.step (fun t k => XS.iloadN X0.here hx rfl (hb hby d1_18) rfl k) ?_
        show own_Goes p e below s (own_F1 Z x0 x1 h0) 0 0 (s₁.setTop (mkF m 19 #[.val (.int x0), .val (.int x1), .unset] [(.int x1), (.int (x0 * (5 : Int32)))]))
        refine own_Goes.step (fun t k => XS.imul X0.here hx rfl (hb hby d1_19) rfl k) ?_
        show own_Goes p e below s (own_F1 Z x0 x1 h0) 0 0 (s₁.setTop (mkF m 20 #[.val (.int x0), .val (.int x1), .unset] [(.int ((x0 * (5 : Int32)) * x1))]))
        refine own_Goes.step (fun t k => XS.istoreN X0.here hx rfl (hb hby d1_20) rfl (l' := #[.val (.int x0), .val (.int x1), .val (.int ((x0 * (5 : Int32)) * x1))]) rfl k) ?_
        show own_Goes p e below s (own_F1 Z x0 x1 h0) 0 0 (s₁.setTop (mkF m 21 #[.val (.int x0), .val (.int x1), .val (.int ((x0 * (5 : Int32)) * x1))] []))
        refine own_Goes.step (fun t k => XS.goto X0.here hx rfl (pc0 := 21) (pc' := 29) rfl (hb hby d1_21) (by decide) (by decide) k) ?_
        show own_Goes p e below s (own_F1 Z x0 x1 h0) 0 0 (s₁.setTop (mkF m 29 #[.val (.int x0), .val (.int x1), .val (.int ((x0 * (5 : Int32)) * x1))] []))
        rw [show (own_f1_1 x0 x1) = ((x0 * (5 : Int32)) * x1) from by simp only [own_f1_1, if_neg hc1, if_pos hc2]] at J3
        exact J3
      · refine own_Goes.step (fun t k => XS.icmpYes X0.here hx rfl (pc0 := 12) (pc' := 24) rfl (hb hby d1_12) rfl (XT.ii_ge_t hc2) (by decide) (by decide) k) ?_
        show own_Goes p e below s (own_F1 Z x0 x1 h0) 0 0 (s₁.setTop (mkF m 24 #[.val (.int x0), .val (.int x1), .unset] []))
        refine own_Goes.step (fun t k => XS.iloadN X0.here hx rfl (hb hby d1_24) rfl k) ?_
        show own_Goes p e below s (own_F1 Z x0 x1 h0) 0 0 (s₁.setTop (mkF m 25 #[.val (.int x0), .val (.int x1), .unset] [(.int x0)]))
        refine own_Goes.step (fun t k => XT.bipushV X0.here hx rfl (100 : Int32) (hb hby d1_25) (by decide) k) ?_
        show own_Goes p e below s (own_F1 Z x0 x1 h0) 0 0 (s₁.setTop (mkF m 27 #[.val (.int x0), .val (.int x1), .unset] [(.int (100 : Int32)), (.int x0)]))
        refine own_Goes.step (fun t k => XS.imul X0.here hx rfl (hb hby d1_27) rfl k) ?_
        show own_Goes p e below s (own_F1 Z x0 x1 h0) 0 0 (s₁.setTop (mkF m 28 #[.val (.int x0), .val (.int x1), .unset] [(.int (x0 * (100 : Int32)))]))
        refine own_Goes.step (fun t k => XS.istoreN X0.here hx rfl (hb hby d1_28) rfl (l' := #[.val (.int x0), .val (.int x1), .val (.int (x0 * (100 : Int32)))]) rfl k) ?_
        show own_Goes p e below s (own_F1 Z x0 x1 h0) 0 0 (s₁.setTop (mkF m 29 #[.val (.int x0), .val (.int x1), .val (.int (x0 * (100 : Int32)))] []))
        rw [show (own_f1_1 x0 x1) = (x0 * (100 : Int32)) from by simp only [own_f1_1, if_neg hc1, if_neg hc2]] at J3
        exact J3
  obtain ⟨t2, o2, q1, q2, q3, q4⟩ := hgo
  exact ⟨t2, o2, castTop (ef_1 m x0 x1) q1, q2, q3, q4⟩
theorem pn_0 : plainName "com/example/instance_picker/instancepicker/WarmUpHundredthsAtPinLaw" = true := by first | (simp [plainName, overriddenIn]; done) | decide +kernel
theorem pd_0 : parseMethodDescriptor "(II)Z" = some ⟨[.int, .int], (some .boolean)⟩ := by decide +kernel
theorem ef_0 (m : MethodId) (x0 : Int32) (x1 : Int32) : entryFrame m #[(.int x0), (.int x1)] maxLocals = mkF m 0 #[.val (.int x0), .val (.int x1), .unset, .unset, .unset, .unset, .unset, .unset, .unset, .unset, .unset] [] := by first | (simp [entryFrame, mkF, argsToLocals, Value.category, maxLocals]; done) | rfl
def own_f0_1 (x0 : Int32) (x1 : Int32) : Int32 := (own_f1 ((x0 &&& (2147483647 : Int32)) % (21474837 : Int32)) ((x1 &&& (2147483647 : Int32)) % (21 : Int32)))
def own_f0_2 (x0 : Int32) (x1 : Int32) : Int64 := (((((x0 &&& (2147483647 : Int32)) % (21474837 : Int32)).toInt64) * (100 : Int64)) * (((x1 &&& (2147483647 : Int32)) % (21 : Int32)).toInt64))
def own_f0 (x0 : Int32) (x1 : Int32) : Int32 := (if ((x1 &&& (2147483647 : Int32)) % (21 : Int32)) = (0 : Int32) then (if ((own_f0_1 x0 x1).toInt64) = (((x0 &&& (2147483647 : Int32)) % (21474837 : Int32)).toInt64) then (if (own_f0_1 x0 x1) < (0 : Int32) then (0 : Int32) else (if ((100 : Int64) * (((x0 &&& (2147483647 : Int32)) % (21474837 : Int32)).toInt64)) < ((own_f0_1 x0 x1).toInt64) then (0 : Int32) else (1 : Int32))) else (0 : Int32)) else (if ((own_f0_2 x0 x1) % (20 : Int64)) = (0 : Int64) then (if ((own_f0_1 x0 x1).toInt64) = ((own_f0_2 x0 x1) / (20 : Int64)) then (if (own_f0_1 x0 x1) < (0 : Int32) then (0 : Int32) else (if ((100 : Int64) * (((x0 &&& (2147483647 : Int32)) % (21474837 : Int32)).toInt64)) < ((own_f0_1 x0 x1).toInt64) then (0 : Int32) else (1 : Int32))) else (0 : Int32)) else (0 : Int32)))
def own_F0 (Z : State) (x0 : Int32) (x1 : Int32)  (n0 : Nat) (h0 : Heap) (v : Option Value) (h : Heap) (L : List Loc) : Prop := v = some (.int (own_f0 x0 x1)) ∧ Fr n0 L
set_option maxRecDepth 65536 in
set_option maxHeartbeats 40000000 in
theorem own_m0 (l : Launch) (Z : State) (a0 : Array Value) (hw : ∀ d ∈ tables_1, d.before a0 Z = true) (ws : List Jvm.Cond) (x0 : Int32) (x1 : Int32)  (n0 : Nat) (h0 : Heap) (Z0 : n0 ≤ h0.size)   :
    MetFree l x (head1 (Jvm.Cond.code x code maxLocals ret :: ws) room_1) (fun a U => a = #[(.int x0), (.int x1)] ∧ Z.Warmed39 U.vm ∧ U.heap = h0) (fun _ _ _ _ _ => True) (fun _ U o U' => ∃ v L, o = .returned v ∧ own_F0 Z x0 x1 n0 h0 v U'.heap L ∧ FrameEnd U o U' L room_1.cells room_1.slots) := by
  refine MetFree.of_bodySF (plainFor_of_name pn_0) hisR ?_
  intro p e s m args below meth c s₁ Bd hml0 hP hK
  obtain ⟨rfl, hZ, hh⟩ := hP
  have hx := Bd.exec
  have hby := Bd.bytes
  have hml : c.maxLocals = 11 := hml0
  have hown : s.vm.findClass "com/example/instance_picker/instancepicker/WarmUpHundredthsAtPinLaw" = some m.cls := findClass_of_methodNamed Bd.named
  have hnm := (name_of_methodNamed Bd.named Bd.method).1
  have X0 : Stand p l e room_1 s m #[(.int x0), (.int x1)] below meth c s₁ [] 0 0 := Stand.of_body Bd
  have e0 : s₁.heap = h0 := by rw [← hh, Bd.state]; rfl
  have N0 := Fr.nil n0
  have K0 : Keep h0 h0 [] := Keep.refl h0 []
  have hgo : own_Goes p e below s (own_F0 Z x0 x1 n0 h0) room_1.cells room_1.slots (s₁.setTop (mkF m 0 #[.val (.int x0), .val (.int x1), .unset, .unset, .unset, .unset, .unset, .unset, .unset, .unset, .unset] [])) := by
    refine own_Goes.step (fun t k => XS.iloadN X0.here hx rfl (hb hby at_0) rfl k) ?_
    show own_Goes p e below s (own_F0 Z x0 x1 n0 h0) room_1.cells room_1.slots (s₁.setTop (mkF m 1 #[.val (.int x0), .val (.int x1), .unset, .unset, .unset, .unset, .unset, .unset, .unset, .unset, .unset] [(.int x0)]))
    refine own_Goes.step (fun t k => X0.ldcI hx hown (mvT hZ (hw _ (List.mem_of_getElem? (i := 0) rfl))) rfl (hb hby at_1) k) ?_
    show own_Goes p e below s (own_F0 Z x0 x1 n0 h0) room_1.cells room_1.slots (s₁.setTop (mkF m 3 #[.val (.int x0), .val (.int x1), .unset, .unset, .unset, .unset, .unset, .unset, .unset, .unset, .unset] [(.int (2147483647 : Int32)), (.int x0)]))
    refine own_Goes.step (fun t k => XS.iand X0.here hx rfl (hb hby at_3) rfl k) ?_
    show own_Goes p e below s (own_F0 Z x0 x1 n0 h0) room_1.cells room_1.slots (s₁.setTop (mkF m 4 #[.val (.int x0), .val (.int x1), .unset, .unset, .unset, .unset, .unset, .unset, .unset, .unset, .unset] [(.int (x0 &&& (2147483647 : Int32)))]))
    refine own_Goes.step (fun t k => X0.ldcI hx hown (mvT hZ (hw _ (List.mem_of_getElem? (i := 1) rfl))) rfl (hb hby at_4) k) ?_
    show own_Goes p e below s (own_F0 Z x0 x1 n0 h0) room_1.cells room_1.slots (s₁.setTop (mkF m 6 #[.val (.int x0), .val (.int x1), .unset, .unset, .unset, .unset, .unset, .unset, .unset, .unset, .unset] [(.int (21474837 : Int32)), (.int (x0 &&& (2147483647 : Int32)))]))
    refine own_Goes.step (fun t k => iremM X0 hx rfl (hb hby at_6) rfl (by decide) k) ?_
    show own_Goes p e below s (own_F0 Z x0 x1 n0 h0) room_1.cells room_1.slots (s₁.setTop (mkF m 7 #[.val (.int x0), .val (.int x1), .unset, .unset, .unset, .unset, .unset, .unset, .unset, .unset, .unset] [(.int ((x0 &&& (2147483647 : Int32)) % (21474837 : Int32)))]))
    refine own_Goes.step (fun t k => XS.istoreN X0.here hx rfl (hb hby at_7) rfl (l' := #[.val (.int x0), .val (.int x1), .val (.int ((x0 &&& (2147483647 : Int32)) % (21474837 : Int32))), .unset, .unset, .unset, .unset, .unset, .unset, .unset, .unset]) rfl k) ?_
    show own_Goes p e below s (own_F0 Z x0 x1 n0 h0) room_1.cells room_1.slots (s₁.setTop (mkF m 8 #[.val (.int x0), .val (.int x1), .val (.int ((x0 &&& (2147483647 : Int32)) % (21474837 : Int32))), .unset, .unset, .unset, .unset, .unset, .unset, .unset, .unset] []))
    refine own_Goes.step (fun t k => XS.iloadN X0.here hx rfl (hb hby at_8) rfl k) ?_
    show own_Goes p e below s (own_F0 Z x0 x1 n0 h0) room_1.cells room_1.slots (s₁.setTop (mkF m 9 #[.val (.int x0), .val (.int x1), .val (.int ((x0 &&& (2147483647 : Int32)) % (21474837 : Int32))), .unset, .unset, .unset, .unset, .unset, .unset, .unset, .unset] [(.int x1)]))
    refine own_Goes.step (fun t k => X0.ldcI hx hown (mvT hZ (hw _ (List.mem_of_getElem? (i := 0) rfl))) rfl (hb hby at_9) k) ?_
    show own_Goes p e below s (own_F0 Z x0 x1 n0 h0) room_1.cells room_1.slots (s₁.setTop (mkF m 11 #[.val (.int x0), .val (.int x1), .val (.int ((x0 &&& (2147483647 : Int32)) % (21474837 : Int32))), .unset, .unset, .unset, .unset, .unset, .unset, .unset, .unset] [(.int (2147483647 : Int32)), (.int x1)]))
    refine own_Goes.step (fun t k => XS.iand X0.here hx rfl (hb hby at_11) rfl k) ?_
    show own_Goes p e below s (own_F0 Z x0 x1 n0 h0) room_1.cells room_1.slots (s₁.setTop (mkF m 12 #[.val (.int x0), .val (.int x1), .val (.int ((x0 &&& (2147483647 : Int32)) % (21474837 : Int32))), .unset, .unset, .unset, .unset, .unset, .unset, .unset, .unset] [(.int (x1 &&& (2147483647 : Int32)))]))
    refine own_Goes.step (fun t k => XT.bipushV X0.here hx rfl (21 : Int32) (hb hby at_12) (by decide) k) ?_
    show own_Goes p e below s (own_F0 Z x0 x1 n0 h0) room_1.cells room_1.slots (s₁.setTop (mkF m 14 #[.val (.int x0), .val (.int x1), .val (.int ((x0 &&& (2147483647 : Int32)) % (21474837 : Int32))), .unset, .unset, .unset, .unset, .unset, .unset, .unset, .unset] [(.int (21 : Int32)), (.int (x1 &&& (2147483647 : Int32)))]))
    refine own_Goes.step (fun t k => iremM X0 hx rfl (hb hby at_14) rfl (by decide) k) ?_
    show own_Goes p e below s (own_F0 Z x0 x1 n0 h0) room_1.cells room_1.slots (s₁.setTop (mkF m 15 #[.val (.int x0), .val (.int x1), .val (.int ((x0 &&& (2147483647 : Int32)) % (21474837 : Int32))), .unset, .unset, .unset, .unset, .unset, .unset, .unset, .unset] [(.int ((x1 &&& (2147483647 : Int32)) % (21 : Int32)))]))
    refine own_Goes.step (fun t k => XS.istoreN X0.here hx rfl (hb hby at_15) rfl (l' := #[.val (.int x0), .val (.int x1), .val (.int ((x0 &&& (2147483647 : Int32)) % (21474837 : Int32))), .val (.int ((x1 &&& (2147483647 : Int32)) % (21 : Int32))), .unset, .unset, .unset, .unset, .unset, .unset, .unset]) rfl k) ?_
    show own_Goes p e below s (own_F0 Z x0 x1 n0 h0) room_1.cells room_1.slots (s₁.setTop (mkF m 16 #[.val (.int x0), .val (.int x1), .val (.int ((x0 &&& (2147483647 : Int32)) % (21474837 : Int32))), .val (.int ((x1 &&& (2147483647 : Int32)) % (21 : Int32))), .unset, .unset, .unset, .unset, .unset, .unset, .unset] []))
    refine own_Goes.step (fun t k => XS.iloadN X0.here hx rfl (hb hby at_16) rfl k) ?_
    show own_Goes p e below s (own_F0 Z x0 x1 n0 h0) room_1.cells room_1.slots (s₁.setTop (mkF m 17 #[.val (.int x0), .val (.int x1), .val (.int ((x0 &&& (2147483647 : Int32)) % (21474837 : Int32))), .val (.int ((x1 &&& (2147483647 : Int32)) % (21 : Int32))), .unset, .unset, .unset, .unset, .unset, .unset, .unset] [(.int ((x0 &&& (2147483647 : Int32)) % (21474837 : Int32)))]))
    refine own_Goes.step (fun t k => XS.iloadN X0.here hx rfl (hb hby at_17) rfl k) ?_
    show own_Goes p e below s (own_F0 Z x0 x1 n0 h0) room_1.cells room_1.slots (s₁.setTop (mkF m 18 #[.val (.int x0), .val (.int x1), .val (.int ((x0 &&& (2147483647 : Int32)) % (21474837 : Int32))), .val (.int ((x1 &&& (2147483647 : Int32)) % (21 : Int32))), .unset, .unset, .unset, .unset, .unset, .unset, .unset] [(.int ((x1 &&& (2147483647 : Int32)) % (21 : Int32))), (.int ((x0 &&& (2147483647 : Int32)) % (21474837 : Int32)))]))
    obtain ⟨w1, T1, L1, q1, Y1, st1⟩ := own_stat X0 hx hZ e0 hown (hw _ (List.mem_of_getElem? (i := 2) rfl)) (hw _ (List.mem_of_getElem? (i := 3) rfl)) (hw _ (List.mem_of_getElem? (i := 4) rfl)) (hw _ (List.mem_of_getElem? (i := 5) rfl)) (by decide) (own_m1 l Z a0 hw [] ((x0 &&& (2147483647 : Int32)) % (21474837 : Int32)) ((x1 &&& (2147483647 : Int32)) % (21 : Int32)) h0 ) (by decide) (W := 0) (by decide) (by decide) (by decide) (g := (mkF m 18 #[.val (.int x0), .val (.int x1), .val (.int ((x0 &&& (2147483647 : Int32)) % (21474837 : Int32))), .val (.int ((x1 &&& (2147483647 : Int32)) % (21 : Int32))), .unset, .unset, .unset, .unset, .unset, .unset, .unset] [(.int ((x1 &&& (2147483647 : Int32)) % (21 : Int32))), (.int ((x0 &&& (2147483647 : Int32)) % (21474837 : Int32)))])) rfl (by rw [hml]; rfl) (argsL := [(.int ((x0 &&& (2147483647 : Int32)) % (21474837 : Int32))), (.int ((x1 &&& (2147483647 : Int32)) % (21 : Int32)))]) (rest := []) (lenOf pd_1 rfl) rfl (by show 2 * 0 + _ ≤ _; exact Nat.le_of_eq rfl) (hb hby at_18)
    obtain ⟨e1, X1⟩ := own_clean q1 Y1 rfl rfl
    obtain ⟨rfl, -, -⟩ := q1
    refine own_Goes.step st1 ?_
    show own_Goes p e below s (own_F0 Z x0 x1 n0 h0) room_1.cells room_1.slots (T1.setTop (mkF m 21 #[.val (.int x0), .val (.int x1), .val (.int ((x0 &&& (2147483647 : Int32)) % (21474837 : Int32))), .val (.int ((x1 &&& (2147483647 : Int32)) % (21 : Int32))), .unset, .unset, .unset, .unset, .unset, .unset, .unset] [(.int (own_f1 ((x0 &&& (2147483647 : Int32)) % (21474837 : Int32)) ((x1 &&& (2147483647 : Int32)) % (21 : Int32))))]))
    refine own_Goes.step (fun t k => XS.istore X1.here hx rfl (hb hby at_21) rfl (l' := #[.val (.int x0), .val (.int x1), .val (.int ((x0 &&& (2147483647 : Int32)) % (21474837 : Int32))), .val (.int ((x1 &&& (2147483647 : Int32)) % (21 : Int32))), .val (.int (own_f0_1 x0 x1)), .unset, .unset, .unset, .unset, .unset, .unset]) rfl k) ?_
    show own_Goes p e below s (own_F0 Z x0 x1 n0 h0) room_1.cells room_1.slots (T1.setTop (mkF m 23 #[.val (.int x0), .val (.int x1), .val (.int ((x0 &&& (2147483647 : Int32)) % (21474837 : Int32))), .val (.int ((x1 &&& (2147483647 : Int32)) % (21 : Int32))), .val (.int (own_f0_1 x0 x1)), .unset, .unset, .unset, .unset, .unset, .unset] []))
    refine own_Goes.step (fun t k => XS.iloadN X1.here hx rfl (hb hby at_23) rfl k) ?_
    show own_Goes p e below s (own_F0 Z x0 x1 n0 h0) room_1.cells room_1.slots (T1.setTop (mkF m 24 #[.val (.int x0), .val (.int x1), .val (.int ((x0 &&& (2147483647 : Int32)) % (21474837 : Int32))), .val (.int ((x1 &&& (2147483647 : Int32)) % (21 : Int32))), .val (.int (own_f0_1 x0 x1)), .unset, .unset, .unset, .unset, .unset, .unset] [(.int ((x0 &&& (2147483647 : Int32)) % (21474837 : Int32)))]))
    refine own_Goes.step (fun t k => XT.i2l X1.here hx rfl (hb hby at_24) rfl k) ?_
    show own_Goes p e below s (own_F0 Z x0 x1 n0 h0) room_1.cells room_1.slots (T1.setTop (mkF m 25 #[.val (.int x0), .val (.int x1), .val (.int ((x0 &&& (2147483647 : Int32)) % (21474837 : Int32))), .val (.int ((x1 &&& (2147483647 : Int32)) % (21 : Int32))), .val (.int (own_f0_1 x0 x1)), .unset, .unset, .unset, .unset, .unset, .unset] [(.long (((x0 &&& (2147483647 : Int32)) % (21474837 : Int32)).toInt64))]))
    refine own_Goes.step (fun t k => XT.lstore X1.here hx rfl (hb hby at_25) rfl (l' := #[.val (.int x0), .val (.int x1), .val (.int ((x0 &&& (2147483647 : Int32)) % (21474837 : Int32))), .val (.int ((x1 &&& (2147483647 : Int32)) % (21 : Int32))), .val (.int (own_f0_1 x0 x1)), .val (.long (((x0 &&& (2147483647 : Int32)) % (21474837 : Int32)).toInt64)), .second, .unset, .unset, .unset, .unset]) rfl k) ?_
    show own_Goes p e below s (own_F0 Z x0 x1 n0 h0) room_1.cells room_1.slots (T1.setTop (mkF m 27 #[.val (.int x0), .val (.int x1), .val (.int ((x0 &&& (2147483647 : Int32)) % (21474837 : Int32))), .val (.int ((x1 &&& (2147483647 : Int32)) % (21 : Int32))), .val (.int (own_f0_1 x0 x1)), .val (.long (((x0 &&& (2147483647 : Int32)) % (21474837 : Int32)).toInt64)), .second, .unset, .unset, .unset, .unset] []))
    refine own_Goes.step (fun t k => XS.iloadN X1.here hx rfl (hb hby at_27) rfl k) ?_
    show own_Goes p e below s (own_F0 Z x0 x1 n0 h0) room_1.cells room_1.slots (T1.setTop (mkF m 28 #[.val (.int x0), .val (.int x1), .val (.int ((x0 &&& (2147483647 : Int32)) % (21474837 : Int32))), .val (.int ((x1 &&& (2147483647 : Int32)) % (21 : Int32))), .val (.int (own_f0_1 x0 x1)), .val (.long (((x0 &&& (2147483647 : Int32)) % (21474837 : Int32)).toInt64)), .second, .unset, .unset, .unset, .unset] [(.int ((x1 &&& (2147483647 : Int32)) % (21 : Int32)))]))
    by_cases hc2 : ((x1 &&& (2147483647 : Int32)) % (21 : Int32)) = (0 : Int32)
    · refine own_Goes.step (fun t k => XS.ifNo X1.here hx rfl (hb hby at_28) rfl (XT.i0_ne_f hc2) k) ?_
      show own_Goes p e below s (own_F0 Z x0 x1 n0 h0) room_1.cells room_1.slots (T1.setTop (mkF m 31 #[.val (.int x0), .val (.int x1), .val (.int ((x0 &&& (2147483647 : Int32)) % (21474837 : Int32))), .val (.int ((x1 &&& (2147483647 : Int32)) % (21 : Int32))), .val (.int (own_f0_1 x0 x1)), .val (.long (((x0 &&& (2147483647 : Int32)) % (21474837 : Int32)).toInt64)), .second, .unset, .unset, .unset, .unset] []))
      refine own_Goes.step (fun t k => XT.lload X1.here hx rfl (hb hby at_31) rfl k) ?_
      show own_Goes p e below s (own_F0 Z x0 x1 n0 h0) room_1.cells room_1.slots (T1.setTop (mkF m 33 #[.val (.int x0), .val (.int x1), .val (.int ((x0 &&& (2147483647 : Int32)) % (21474837 : Int32))), .val (.int ((x1 &&& (2147483647 : Int32)) % (21 : Int32))), .val (.int (own_f0_1 x0 x1)), .val (.long (((x0 &&& (2147483647 : Int32)) % (21474837 : Int32)).toInt64)), .second, .unset, .unset, .unset, .unset] [(.long (((x0 &&& (2147483647 : Int32)) % (21474837 : Int32)).toInt64))]))
      refine own_Goes.step (fun t k => XT.lstore X1.here hx rfl (hb hby at_33) rfl (l' := #[.val (.int x0), .val (.int x1), .val (.int ((x0 &&& (2147483647 : Int32)) % (21474837 : Int32))), .val (.int ((x1 &&& (2147483647 : Int32)) % (21 : Int32))), .val (.int (own_f0_1 x0 x1)), .val (.long (((x0 &&& (2147483647 : Int32)) % (21474837 : Int32)).toInt64)), .second, .val (.long (((x0 &&& (2147483647 : Int32)) % (21474837 : Int32)).toInt64)), .second, .unset, .unset]) rfl k) ?_
      show own_Goes p e below s (own_F0 Z x0 x1 n0 h0) room_1.cells room_1.slots (T1.setTop (mkF m 35 #[.val (.int x0), .val (.int x1), .val (.int ((x0 &&& (2147483647 : Int32)) % (21474837 : Int32))), .val (.int ((x1 &&& (2147483647 : Int32)) % (21 : Int32))), .val (.int (own_f0_1 x0 x1)), .val (.long (((x0 &&& (2147483647 : Int32)) % (21474837 : Int32)).toInt64)), .second, .val (.long (((x0 &&& (2147483647 : Int32)) % (21474837 : Int32)).toInt64)), .second, .unset, .unset] []))
      refine own_Goes.step (fun t k => XS.goto X1.here hx rfl (pc0 := 35) (pc' := 70) rfl (hb hby at_35) (by decide) (by decide) k) ?_
      show own_Goes p e below s (own_F0 Z x0 x1 n0 h0) room_1.cells room_1.slots (T1.setTop (mkF m 70 #[.val (.int x0), .val (.int x1), .val (.int ((x0 &&& (2147483647 : Int32)) % (21474837 : Int32))), .val (.int ((x1 &&& (2147483647 : Int32)) % (21 : Int32))), .val (.int (own_f0_1 x0 x1)), .val (.long (((x0 &&& (2147483647 : Int32)) % (21474837 : Int32)).toInt64)), .second, .val (.long (((x0 &&& (2147483647 : Int32)) % (21474837 : Int32)).toInt64)), .second, .unset, .unset] []))
      refine own_Goes.step (fun t k => XS.iload X1.here hx rfl (hb hby at_70) rfl k) ?_
      show own_Goes p e below s (own_F0 Z x0 x1 n0 h0) room_1.cells room_1.slots (T1.setTop (mkF m 72 #[.val (.int x0), .val (.int x1), .val (.int ((x0 &&& (2147483647 : Int32)) % (21474837 : Int32))), .val (.int ((x1 &&& (2147483647 : Int32)) % (21 : Int32))), .val (.int (own_f0_1 x0 x1)), .val (.long (((x0 &&& (2147483647 : Int32)) % (21474837 : Int32)).toInt64)), .second, .val (.long (((x0 &&& (2147483647 : Int32)) % (21474837 : Int32)).toInt64)), .second, .unset, .unset] [(.int (own_f0_1 x0 x1))]))
      refine own_Goes.step (fun t k => XT.i2l X1.here hx rfl (hb hby at_72) rfl k) ?_
      show own_Goes p e below s (own_F0 Z x0 x1 n0 h0) room_1.cells room_1.slots (T1.setTop (mkF m 73 #[.val (.int x0), .val (.int x1), .val (.int ((x0 &&& (2147483647 : Int32)) % (21474837 : Int32))), .val (.int ((x1 &&& (2147483647 : Int32)) % (21 : Int32))), .val (.int (own_f0_1 x0 x1)), .val (.long (((x0 &&& (2147483647 : Int32)) % (21474837 : Int32)).toInt64)), .second, .val (.long (((x0 &&& (2147483647 : Int32)) % (21474837 : Int32)).toInt64)), .second, .unset, .unset] [(.long ((own_f0_1 x0 x1).toInt64))]))
      refine own_Goes.step (fun t k => XT.lload X1.here hx rfl (hb hby at_73) rfl k) ?_
      show own_Goes p e below s (own_F0 Z x0 x1 n0 h0) room_1.cells room_1.slots (T1.setTop (mkF m 75 #[.val (.int x0), .val (.int x1), .val (.int ((x0 &&& (2147483647 : Int32)) % (21474837 : Int32))), .val (.int ((x1 &&& (2147483647 : Int32)) % (21 : Int32))), .val (.int (own_f0_1 x0 x1)), .val (.long (((x0 &&& (2147483647 : Int32)) % (21474837 : Int32)).toInt64)), .second, .val (.long (((x0 &&& (2147483647 : Int32)) % (21474837 : Int32)).toInt64)), .second, .unset, .unset] [(.long (((x0 &&& (2147483647 : Int32)) % (21474837 : Int32)).toInt64)), (.long ((own_f0_1 x0 x1).toInt64))]))
      refine own_Goes.step (fun t k => XT.lcmp X1.here hx rfl (hb hby at_75) rfl k) ?_
      show own_Goes p e below s (own_F0 Z x0 x1 n0 h0) room_1.cells room_1.slots (T1.setTop (mkF m 76 #[.val (.int x0), .val (.int x1), .val (.int ((x0 &&& (2147483647 : Int32)) % (21474837 : Int32))), .val (.int ((x1 &&& (2147483647 : Int32)) % (21 : Int32))), .val (.int (own_f0_1 x0 x1)), .val (.long (((x0 &&& (2147483647 : Int32)) % (21474837 : Int32)).toInt64)), .second, .val (.long (((x0 &&& (2147483647 : Int32)) % (21474837 : Int32)).toInt64)), .second, .unset, .unset] [(.int (XT.cmpL ((own_f0_1 x0 x1).toInt64) (((x0 &&& (2147483647 : Int32)) % (21474837 : Int32)).toInt64)))]))
      by_cases hc3 : ((own_f0_1 x0 x1).toInt64) = (((x0 &&& (2147483647 : Int32)) % (21474837 : Int32)).toInt64)
      · refine own_Goes.step (fun t k => XS.ifNo X1.here hx rfl (hb hby at_76) rfl (XT.ll_ne_f hc3) k) ?_
        show own_Goes p e below s (own_F0 Z x0 x1 n0 h0) room_1.cells room_1.slots (T1.setTop (mkF m 79 #[.val (.int x0), .val (.int x1), .val (.int ((x0 &&& (2147483647 : Int32)) % (21474837 : Int32))), .val (.int ((x1 &&& (2147483647 : Int32)) % (21 : Int32))), .val (.int (own_f0_1 x0 x1)), .val (.long (((x0 &&& (2147483647 : Int32)) % (21474837 : Int32)).toInt64)), .second, .val (.long (((x0 &&& (2147483647 : Int32)) % (21474837 : Int32)).toInt64)), .second, .unset, .unset] []))
        refine own_Goes.step (fun t k => XS.iload X1.here hx rfl (hb hby at_79) rfl k) ?_
        show own_Goes p e below s (own_F0 Z x0 x1 n0 h0) room_1.cells room_1.slots (T1.setTop (mkF m 81 #[.val (.int x0), .val (.int x1), .val (.int ((x0 &&& (2147483647 : Int32)) % (21474837 : Int32))), .val (.int ((x1 &&& (2147483647 : Int32)) % (21 : Int32))), .val (.int (own_f0_1 x0 x1)), .val (.long (((x0 &&& (2147483647 : Int32)) % (21474837 : Int32)).toInt64)), .second, .val (.long (((x0 &&& (2147483647 : Int32)) % (21474837 : Int32)).toInt64)), .second, .unset, .unset] [(.int (own_f0_1 x0 x1))]))
        by_cases hc4 : (own_f0_1 x0 x1) < (0 : Int32)
        · refine own_Goes.step (fun t k => XS.ifYes X1.here hx rfl (pc0 := 81) (pc' := 101) rfl (hb hby at_81) rfl (XT.i0_lt_t hc4) (by decide) (by decide) k) ?_
          show own_Goes p e below s (own_F0 Z x0 x1 n0 h0) room_1.cells room_1.slots (T1.setTop (mkF m 101 #[.val (.int x0), .val (.int x1), .val (.int ((x0 &&& (2147483647 : Int32)) % (21474837 : Int32))), .val (.int ((x1 &&& (2147483647 : Int32)) % (21 : Int32))), .val (.int (own_f0_1 x0 x1)), .val (.long (((x0 &&& (2147483647 : Int32)) % (21474837 : Int32)).toInt64)), .second, .val (.long (((x0 &&& (2147483647 : Int32)) % (21474837 : Int32)).toInt64)), .second, .unset, .unset] []))
          refine own_Goes.step (fun t k => XT.iconstV X1.here hx rfl (0 : Int32) (hb hby at_101) (by decide) k) ?_
          show own_Goes p e below s (own_F0 Z x0 x1 n0 h0) room_1.cells room_1.slots (T1.setTop (mkF m 102 #[.val (.int x0), .val (.int x1), .val (.int ((x0 &&& (2147483647 : Int32)) % (21474837 : Int32))), .val (.int ((x1 &&& (2147483647 : Int32)) % (21 : Int32))), .val (.int (own_f0_1 x0 x1)), .val (.long (((x0 &&& (2147483647 : Int32)) % (21474837 : Int32)).toInt64)), .second, .val (.long (((x0 &&& (2147483647 : Int32)) % (21474837 : Int32)).toInt64)), .second, .unset, .unset] [(.int (0 : Int32))]))
          exact own_endN X1 hx Bd.notSynchronized (t := .boolean) Bd.returns (by simp) (hb hby at_102) ⟨(congrArg (fun z => some (Value.int z)) (show (0 : Int32) = own_f0 x0 x1 from by simp only [own_f0, if_pos hc2, if_pos hc3, if_pos hc4])), N0⟩ (by decide) (by decide)
        · refine own_Goes.step (fun t k => XS.ifNo X1.here hx rfl (hb hby at_81) rfl (XT.i0_lt_f hc4) k) ?_
          show own_Goes p e below s (own_F0 Z x0 x1 n0 h0) room_1.cells room_1.slots (T1.setTop (mkF m 84 #[.val (.int x0), .val (.int x1), .val (.int ((x0 &&& (2147483647 : Int32)) % (21474837 : Int32))), .val (.int ((x1 &&& (2147483647 : Int32)) % (21 : Int32))), .val (.int (own_f0_1 x0 x1)), .val (.long (((x0 &&& (2147483647 : Int32)) % (21474837 : Int32)).toInt64)), .second, .val (.long (((x0 &&& (2147483647 : Int32)) % (21474837 : Int32)).toInt64)), .second, .unset, .unset] []))
          refine own_Goes.step (fun t k => XS.iload X1.here hx rfl (hb hby at_84) rfl k) ?_
          show own_Goes p e below s (own_F0 Z x0 x1 n0 h0) room_1.cells room_1.slots (T1.setTop (mkF m 86 #[.val (.int x0), .val (.int x1), .val (.int ((x0 &&& (2147483647 : Int32)) % (21474837 : Int32))), .val (.int ((x1 &&& (2147483647 : Int32)) % (21 : Int32))), .val (.int (own_f0_1 x0 x1)), .val (.long (((x0 &&& (2147483647 : Int32)) % (21474837 : Int32)).toInt64)), .second, .val (.long (((x0 &&& (2147483647 : Int32)) % (21474837 : Int32)).toInt64)), .second, .unset, .unset] [(.int (own_f0_1 x0 x1))]))
          refine own_Goes.step (fun t k => XT.i2l X1.here hx rfl (hb hby at_86) rfl k) ?_
          show own_Goes p e below s (own_F0 Z x0 x1 n0 h0) room_1.cells room_1.slots (T1.setTop (mkF m 87 #[.val (.int x0), .val (.int x1), .val (.int ((x0 &&& (2147483647 : Int32)) % (21474837 : Int32))), .val (.int ((x1 &&& (2147483647 : Int32)) % (21 : Int32))), .val (.int (own_f0_1 x0 x1)), .val (.long (((x0 &&& (2147483647 : Int32)) % (21474837 : Int32)).toInt64)), .second, .val (.long (((x0 &&& (2147483647 : Int32)) % (21474837 : Int32)).toInt64)), .second, .unset, .unset] [(.long ((own_f0_1 x0 x1).toInt64))]))
          refine own_Goes.step (fun t k => X1.ldc2J hx hown (mvT hZ (hw _ (List.mem_of_getElem? (i := 6) rfl))) rfl (hb hby at_87) k) ?_
          show own_Goes p e below s (own_F0 Z x0 x1 n0 h0) room_1.cells room_1.slots (T1.setTop (mkF m 90 #[.val (.int x0), .val (.int x1), .val (.int ((x0 &&& (2147483647 : Int32)) % (21474837 : Int32))), .val (.int ((x1 &&& (2147483647 : Int32)) % (21 : Int32))), .val (.int (own_f0_1 x0 x1)), .val (.long (((x0 &&& (2147483647 : Int32)) % (21474837 : Int32)).toInt64)), .second, .val (.long (((x0 &&& (2147483647 : Int32)) % (21474837 : Int32)).toInt64)), .second, .unset, .unset] [(.long (100 : Int64)), (.long ((own_f0_1 x0 x1).toInt64))]))
          refine own_Goes.step (fun t k => XT.lload X1.here hx rfl (hb hby at_90) rfl k) ?_
          show own_Goes p e below s (own_F0 Z x0 x1 n0 h0) room_1.cells room_1.slots (T1.setTop (mkF m 92 #[.val (.int x0), .val (.int x1), .val (.int ((x0 &&& (2147483647 : Int32)) % (21474837 : Int32))), .val (.int ((x1 &&& (2147483647 : Int32)) % (21 : Int32))), .val (.int (own_f0_1 x0 x1)), .val (.long (((x0 &&& (2147483647 : Int32)) % (21474837 : Int32)).toInt64)), .second, .val (.long (((x0 &&& (2147483647 : Int32)) % (21474837 : Int32)).toInt64)), .second, .unset, .unset] [(.long (((x0 &&& (2147483647 : Int32)) % (21474837 : Int32)).toInt64)), (.long (100 : Int64)), (.long ((own_f0_1 x0 x1).toInt64))]))
          refine own_Goes.step (fun t k => XT.lmul X1.here hx rfl (hb hby at_92) rfl k) ?_
          show own_Goes p e below s (own_F0 Z x0 x1 n0 h0) room_1.cells room_1.slots (T1.setTop (mkF m 93 #[.val (.int x0), .val (.int x1), .val (.int ((x0 &&& (2147483647 : Int32)) % (21474837 : Int32))), .val (.int ((x1 &&& (2147483647 : Int32)) % (21 : Int32))), .val (.int (own_f0_1 x0 x1)), .val (.long (((x0 &&& (2147483647 : Int32)) % (21474837 : Int32)).toInt64)), .second, .val (.long (((x0 &&& (2147483647 : Int32)) % (21474837 : Int32)).toInt64)), .second, .unset, .unset] [(.long ((100 : Int64) * (((x0 &&& (2147483647 : Int32)) % (21474837 : Int32)).toInt64))), (.long ((own_f0_1 x0 x1).toInt64))]))
          refine own_Goes.step (fun t k => XT.lcmp X1.here hx rfl (hb hby at_93) rfl k) ?_
          show own_Goes p e below s (own_F0 Z x0 x1 n0 h0) room_1.cells room_1.slots (T1.setTop (mkF m 94 #[.val (.int x0), .val (.int x1), .val (.int ((x0 &&& (2147483647 : Int32)) % (21474837 : Int32))), .val (.int ((x1 &&& (2147483647 : Int32)) % (21 : Int32))), .val (.int (own_f0_1 x0 x1)), .val (.long (((x0 &&& (2147483647 : Int32)) % (21474837 : Int32)).toInt64)), .second, .val (.long (((x0 &&& (2147483647 : Int32)) % (21474837 : Int32)).toInt64)), .second, .unset, .unset] [(.int (XT.cmpL ((own_f0_1 x0 x1).toInt64) ((100 : Int64) * (((x0 &&& (2147483647 : Int32)) % (21474837 : Int32)).toInt64))))]))
          by_cases hc5 : ((100 : Int64) * (((x0 &&& (2147483647 : Int32)) % (21474837 : Int32)).toInt64)) < ((own_f0_1 x0 x1).toInt64)
          · refine own_Goes.step (fun t k => XS.ifYes X1.here hx rfl (pc0 := 94) (pc' := 101) rfl (hb hby at_94) rfl (XT.ll_gt_t hc5) (by decide) (by decide) k) ?_
            show own_Goes p e below s (own_F0 Z x0 x1 n0 h0) room_1.cells room_1.slots (T1.setTop (mkF m 101 #[.val (.int x0), .val (.int x1), .val (.int ((x0 &&& (2147483647 : Int32)) % (21474837 : Int32))), .val (.int ((x1 &&& (2147483647 : Int32)) % (21 : Int32))), .val (.int (own_f0_1 x0 x1)), .val (.long (((x0 &&& (2147483647 : Int32)) % (21474837 : Int32)).toInt64)), .second, .val (.long (((x0 &&& (2147483647 : Int32)) % (21474837 : Int32)).toInt64)), .second, .unset, .unset] []))
            refine own_Goes.step (fun t k => XT.iconstV X1.here hx rfl (0 : Int32) (hb hby at_101) (by decide) k) ?_
            show own_Goes p e below s (own_F0 Z x0 x1 n0 h0) room_1.cells room_1.slots (T1.setTop (mkF m 102 #[.val (.int x0), .val (.int x1), .val (.int ((x0 &&& (2147483647 : Int32)) % (21474837 : Int32))), .val (.int ((x1 &&& (2147483647 : Int32)) % (21 : Int32))), .val (.int (own_f0_1 x0 x1)), .val (.long (((x0 &&& (2147483647 : Int32)) % (21474837 : Int32)).toInt64)), .second, .val (.long (((x0 &&& (2147483647 : Int32)) % (21474837 : Int32)).toInt64)), .second, .unset, .unset] [(.int (0 : Int32))]))
            exact own_endN X1 hx Bd.notSynchronized (t := .boolean) Bd.returns (by simp) (hb hby at_102) ⟨(congrArg (fun z => some (Value.int z)) (show (0 : Int32) = own_f0 x0 x1 from by simp only [own_f0, if_pos hc2, if_pos hc3, if_neg hc4, if_pos hc5])), N0⟩ (by decide) (by decide)
          · refine own_Goes.step (fun t k => XS.ifNo X1.here hx rfl (hb hby at_94) rfl (XT.ll_gt_f hc5) k) ?_
            show own_Goes p e below s (own_F0 Z x0 x1 n0 h0) room_1.cells room_1.slots (T1.setTop (mkF m 97 #[.val (.int x0), .val (.int x1), .val (.int ((x0 &&& (2147483647 : Int32)) % (21474837 : Int32))), .val (.int ((x1 &&& (2147483647 : Int32)) % (21 : Int32))), .val (.int (own_f0_1 x0 x1)), .val (.long (((x0 &&& (2147483647 : Int32)) % (21474837 : Int32)).toInt64)), .second, .val (.long (((x0 &&& (2147483647 : Int32)) % (21474837 : Int32)).toInt64)), .second, .unset, .unset] []))
            refine own_Goes.step (fun t k => XT.iconstV X1.here hx rfl (1 : Int32) (hb hby at_97) (by decide) k) ?_
            show own_Goes p e below s (own_F0 Z x0 x1 n0 h0) room_1.cells room_1.slots (T1.setTop (mkF m 98 #[.val (.int x0), .val (.int x1), .val (.int ((x0 &&& (2147483647 : Int32)) % (21474837 : Int32))), .val (.int ((x1 &&& (2147483647 : Int32)) % (21 : Int32))), .val (.int (own_f0_1 x0 x1)), .val (.long (((x0 &&& (2147483647 : Int32)) % (21474837 : Int32)).toInt64)), .second, .val (.long (((x0 &&& (2147483647 : Int32)) % (21474837 : Int32)).toInt64)), .second, .unset, .unset] [(.int (1 : Int32))]))
            refine own_Goes.step (fun t k => XS.goto X1.here hx rfl (pc0 := 98) (pc' := 102) rfl (hb hby at_98) (by decide) (by decide) k) ?_
            show own_Goes p e below s (own_F0 Z x0 x1 n0 h0) room_1.cells room_1.slots (T1.setTop (mkF m 102 #[.val (.int x0), .val (.int x1), .val (.int ((x0 &&& (2147483647 : Int32)) % (21474837 : Int32))), .val (.int ((x1 &&& (2147483647 : Int32)) % (21 : Int32))), .val (.int (own_f0_1 x0 x1)), .val (.long (((x0 &&& (2147483647 : Int32)) % (21474837 : Int32)).toInt64)), .second, .val (.long (((x0 &&& (2147483647 : Int32)) % (21474837 : Int32)).toInt64)), .second, .unset, .unset] [(.int (1 : Int32))]))
            exact own_endN X1 hx Bd.notSynchronized (t := .boolean) Bd.returns (by simp) (hb hby at_102) ⟨(congrArg (fun z => some (Value.int z)) (show (1 : Int32) = own_f0 x0 x1 from by simp only [own_f0, if_pos hc2, if_pos hc3, if_neg hc4, if_neg hc5])), N0⟩ (by decide) (by decide)
      · refine own_Goes.step (fun t k => XS.ifYes X1.here hx rfl (pc0 := 76) (pc' := 101) rfl (hb hby at_76) rfl (XT.ll_ne_t hc3) (by decide) (by decide) k) ?_
        show own_Goes p e below s (own_F0 Z x0 x1 n0 h0) room_1.cells room_1.slots (T1.setTop (mkF m 101 #[.val (.int x0), .val (.int x1), .val (.int ((x0 &&& (2147483647 : Int32)) % (21474837 : Int32))), .val (.int ((x1 &&& (2147483647 : Int32)) % (21 : Int32))), .val (.int (own_f0_1 x0 x1)), .val (.long (((x0 &&& (2147483647 : Int32)) % (21474837 : Int32)).toInt64)), .second, .val (.long (((x0 &&& (2147483647 : Int32)) % (21474837 : Int32)).toInt64)), .second, .unset, .unset] []))
        refine own_Goes.step (fun t k => XT.iconstV X1.here hx rfl (0 : Int32) (hb hby at_101) (by decide) k) ?_
        show own_Goes p e below s (own_F0 Z x0 x1 n0 h0) room_1.cells room_1.slots (T1.setTop (mkF m 102 #[.val (.int x0), .val (.int x1), .val (.int ((x0 &&& (2147483647 : Int32)) % (21474837 : Int32))), .val (.int ((x1 &&& (2147483647 : Int32)) % (21 : Int32))), .val (.int (own_f0_1 x0 x1)), .val (.long (((x0 &&& (2147483647 : Int32)) % (21474837 : Int32)).toInt64)), .second, .val (.long (((x0 &&& (2147483647 : Int32)) % (21474837 : Int32)).toInt64)), .second, .unset, .unset] [(.int (0 : Int32))]))
        exact own_endN X1 hx Bd.notSynchronized (t := .boolean) Bd.returns (by simp) (hb hby at_102) ⟨(congrArg (fun z => some (Value.int z)) (show (0 : Int32) = own_f0 x0 x1 from by simp only [own_f0, if_pos hc2, if_neg hc3])), N0⟩ (by decide) (by decide)
    · refine own_Goes.step (fun t k => XS.ifYes X1.here hx rfl (pc0 := 28) (pc' := 38) rfl (hb hby at_28) rfl (XT.i0_ne_t hc2) (by decide) (by decide) k) ?_
      show own_Goes p e below s (own_F0 Z x0 x1 n0 h0) room_1.cells room_1.slots (T1.setTop (mkF m 38 #[.val (.int x0), .val (.int x1), .val (.int ((x0 &&& (2147483647 : Int32)) % (21474837 : Int32))), .val (.int ((x1 &&& (2147483647 : Int32)) % (21 : Int32))), .val (.int (own_f0_1 x0 x1)), .val (.long (((x0 &&& (2147483647 : Int32)) % (21474837 : Int32)).toInt64)), .second, .unset, .unset, .unset, .unset] []))
      refine own_Goes.step (fun t k => XT.lload X1.here hx rfl (hb hby at_38) rfl k) ?_
      show own_Goes p e below s (own_F0 Z x0 x1 n0 h0) room_1.cells room_1.slots (T1.setTop (mkF m 40 #[.val (.int x0), .val (.int x1), .val (.int ((x0 &&& (2147483647 : Int32)) % (21474837 : Int32))), .val (.int ((x1 &&& (2147483647 : Int32)) % (21 : Int32))), .val (.int (own_f0_1 x0 x1)), .val (.long (((x0 &&& (2147483647 : Int32)) % (21474837 : Int32)).toInt64)), .second, .unset, .unset, .unset, .unset] [(.long (((x0 &&& (2147483647 : Int32)) % (21474837 : Int32)).toInt64))]))
      refine own_Goes.step (fun t k => X1.ldc2J hx hown (mvT hZ (hw _ (List.mem_of_getElem? (i := 6) rfl))) rfl (hb hby at_40) k) ?_
      show own_Goes p e below s (own_F0 Z x0 x1 n0 h0) room_1.cells room_1.slots (T1.setTop (mkF m 43 #[.val (.int x0), .val (.int x1), .val (.int ((x0 &&& (2147483647 : Int32)) % (21474837 : Int32))), .val (.int ((x1 &&& (2147483647 : Int32)) % (21 : Int32))), .val (.int (own_f0_1 x0 x1)), .val (.long (((x0 &&& (2147483647 : Int32)) % (21474837 : Int32)).toInt64)), .second, .unset, .unset, .unset, .unset] [(.long (100 : Int64)), (.long (((x0 &&& (2147483647 : Int32)) % (21474837 : Int32)).toInt64))]))
      refine own_Goes.step (fun t k => XT.lmul X1.here hx rfl (hb hby at_43) rfl k) ?_
      show own_Goes p e below s (own_F0 Z x0 x1 n0 h0) room_1.cells room_1.slots (T1.setTop (mkF m 44 #[.val (.int x0), .val (.int x1), .val (.int ((x0 &&& (2147483647 : Int32)) % (21474837 : Int32))), .val (.int ((x1 &&& (2147483647 : Int32)) % (21 : Int32))), .val (.int (own_f0_1 x0 x1)), .val (.long (((x0 &&& (2147483647 : Int32)) % (21474837 : Int32)).toInt64)), .second, .unset, .unset, .unset, .unset] [(.long ((((x0 &&& (2147483647 : Int32)) % (21474837 : Int32)).toInt64) * (100 : Int64)))]))
      refine own_Goes.step (fun t k => XS.iloadN X1.here hx rfl (hb hby at_44) rfl k) ?_
      show own_Goes p e below s (own_F0 Z x0 x1 n0 h0) room_1.cells room_1.slots (T1.setTop (mkF m 45 #[.val (.int x0), .val (.int x1), .val (.int ((x0 &&& (2147483647 : Int32)) % (21474837 : Int32))), .val (.int ((x1 &&& (2147483647 : Int32)) % (21 : Int32))), .val (.int (own_f0_1 x0 x1)), .val (.long (((x0 &&& (2147483647 : Int32)) % (21474837 : Int32)).toInt64)), .second, .unset, .unset, .unset, .unset] [(.int ((x1 &&& (2147483647 : Int32)) % (21 : Int32))), (.long ((((x0 &&& (2147483647 : Int32)) % (21474837 : Int32)).toInt64) * (100 : Int64)))]))
      refine own_Goes.step (fun t k => XT.i2l X1.here hx rfl (hb hby at_45) rfl k) ?_
      show own_Goes p e below s (own_F0 Z x0 x1 n0 h0) room_1.cells room_1.slots (T1.setTop (mkF m 46 #[.val (.int x0), .val (.int x1), .val (.int ((x0 &&& (2147483647 : Int32)) % (21474837 : Int32))), .val (.int ((x1 &&& (2147483647 : Int32)) % (21 : Int32))), .val (.int (own_f0_1 x0 x1)), .val (.long (((x0 &&& (2147483647 : Int32)) % (21474837 : Int32)).toInt64)), .second, .unset, .unset, .unset, .unset] [(.long (((x1 &&& (2147483647 : Int32)) % (21 : Int32)).toInt64)), (.long ((((x0 &&& (2147483647 : Int32)) % (21474837 : Int32)).toInt64) * (100 : Int64)))]))
      refine own_Goes.step (fun t k => XT.lmul X1.here hx rfl (hb hby at_46) rfl k) ?_
      show own_Goes p e below s (own_F0 Z x0 x1 n0 h0) room_1.cells room_1.slots (T1.setTop (mkF m 47 #[.val (.int x0), .val (.int x1), .val (.int ((x0 &&& (2147483647 : Int32)) % (21474837 : Int32))), .val (.int ((x1 &&& (2147483647 : Int32)) % (21 : Int32))), .val (.int (own_f0_1 x0 x1)), .val (.long (((x0 &&& (2147483647 : Int32)) % (21474837 : Int32)).toInt64)), .second, .unset, .unset, .unset, .unset] [(.long (((((x0 &&& (2147483647 : Int32)) % (21474837 : Int32)).toInt64) * (100 : Int64)) * (((x1 &&& (2147483647 : Int32)) % (21 : Int32)).toInt64)))]))
      refine own_Goes.step (fun t k => XT.lstore X1.here hx rfl (hb hby at_47) rfl (l' := #[.val (.int x0), .val (.int x1), .val (.int ((x0 &&& (2147483647 : Int32)) % (21474837 : Int32))), .val (.int ((x1 &&& (2147483647 : Int32)) % (21 : Int32))), .val (.int (own_f0_1 x0 x1)), .val (.long (((x0 &&& (2147483647 : Int32)) % (21474837 : Int32)).toInt64)), .second, .unset, .unset, .val (.long (own_f0_2 x0 x1)), .second]) rfl k) ?_
      show own_Goes p e below s (own_F0 Z x0 x1 n0 h0) room_1.cells room_1.slots (T1.setTop (mkF m 49 #[.val (.int x0), .val (.int x1), .val (.int ((x0 &&& (2147483647 : Int32)) % (21474837 : Int32))), .val (.int ((x1 &&& (2147483647 : Int32)) % (21 : Int32))), .val (.int (own_f0_1 x0 x1)), .val (.long (((x0 &&& (2147483647 : Int32)) % (21474837 : Int32)).toInt64)), .second, .unset, .unset, .val (.long (own_f0_2 x0 x1)), .second] []))
      refine own_Goes.step (fun t k => XT.lload X1.here hx rfl (hb hby at_49) rfl k) ?_
      show own_Goes p e below s (own_F0 Z x0 x1 n0 h0) room_1.cells room_1.slots (T1.setTop (mkF m 51 #[.val (.int x0), .val (.int x1), .val (.int ((x0 &&& (2147483647 : Int32)) % (21474837 : Int32))), .val (.int ((x1 &&& (2147483647 : Int32)) % (21 : Int32))), .val (.int (own_f0_1 x0 x1)), .val (.long (((x0 &&& (2147483647 : Int32)) % (21474837 : Int32)).toInt64)), .second, .unset, .unset, .val (.long (own_f0_2 x0 x1)), .second] [(.long (own_f0_2 x0 x1))]))
      refine own_Goes.step (fun t k => X1.ldc2J hx hown (mvT hZ (hw _ (List.mem_of_getElem? (i := 7) rfl))) rfl (hb hby at_51) k) ?_
      show own_Goes p e below s (own_F0 Z x0 x1 n0 h0) room_1.cells room_1.slots (T1.setTop (mkF m 54 #[.val (.int x0), .val (.int x1), .val (.int ((x0 &&& (2147483647 : Int32)) % (21474837 : Int32))), .val (.int ((x1 &&& (2147483647 : Int32)) % (21 : Int32))), .val (.int (own_f0_1 x0 x1)), .val (.long (((x0 &&& (2147483647 : Int32)) % (21474837 : Int32)).toInt64)), .second, .unset, .unset, .val (.long (own_f0_2 x0 x1)), .second] [(.long (20 : Int64)), (.long (own_f0_2 x0 x1))]))
      refine own_Goes.step (fun t k => own_lremM X1 hx rfl (hb hby at_54) rfl (by decide) k) ?_
      show own_Goes p e below s (own_F0 Z x0 x1 n0 h0) room_1.cells room_1.slots (T1.setTop (mkF m 55 #[.val (.int x0), .val (.int x1), .val (.int ((x0 &&& (2147483647 : Int32)) % (21474837 : Int32))), .val (.int ((x1 &&& (2147483647 : Int32)) % (21 : Int32))), .val (.int (own_f0_1 x0 x1)), .val (.long (((x0 &&& (2147483647 : Int32)) % (21474837 : Int32)).toInt64)), .second, .unset, .unset, .val (.long (own_f0_2 x0 x1)), .second] [(.long ((own_f0_2 x0 x1) % (20 : Int64)))]))
      refine own_Goes.step (fun t k => XT.lconstV X1.here hx rfl (0 : Int64) (hb hby at_55) (by decide) k) ?_
      show own_Goes p e below s (own_F0 Z x0 x1 n0 h0) room_1.cells room_1.slots (T1.setTop (mkF m 56 #[.val (.int x0), .val (.int x1), .val (.int ((x0 &&& (2147483647 : Int32)) % (21474837 : Int32))), .val (.int ((x1 &&& (2147483647 : Int32)) % (21 : Int32))), .val (.int (own_f0_1 x0 x1)), .val (.long (((x0 &&& (2147483647 : Int32)) % (21474837 : Int32)).toInt64)), .second, .unset, .unset, .val (.long (own_f0_2 x0 x1)), .second] [(.long (0 : Int64)), (.long ((own_f0_2 x0 x1) % (20 : Int64)))]))
      refine own_Goes.step (fun t k => XT.lcmp X1.here hx rfl (hb hby at_56) rfl k) ?_
      show own_Goes p e below s (own_F0 Z x0 x1 n0 h0) room_1.cells room_1.slots (T1.setTop (mkF m 57 #[.val (.int x0), .val (.int x1), .val (.int ((x0 &&& (2147483647 : Int32)) % (21474837 : Int32))), .val (.int ((x1 &&& (2147483647 : Int32)) % (21 : Int32))), .val (.int (own_f0_1 x0 x1)), .val (.long (((x0 &&& (2147483647 : Int32)) % (21474837 : Int32)).toInt64)), .second, .unset, .unset, .val (.long (own_f0_2 x0 x1)), .second] [(.int (XT.cmpL ((own_f0_2 x0 x1) % (20 : Int64)) (0 : Int64)))]))
      by_cases hc6 : ((own_f0_2 x0 x1) % (20 : Int64)) = (0 : Int64)
      · refine own_Goes.step (fun t k => XS.ifYes X1.here hx rfl (pc0 := 57) (pc' := 62) rfl (hb hby at_57) rfl (XT.ll_eq_t hc6) (by decide) (by decide) k) ?_
        show own_Goes p e below s (own_F0 Z x0 x1 n0 h0) room_1.cells room_1.slots (T1.setTop (mkF m 62 #[.val (.int x0), .val (.int x1), .val (.int ((x0 &&& (2147483647 : Int32)) % (21474837 : Int32))), .val (.int ((x1 &&& (2147483647 : Int32)) % (21 : Int32))), .val (.int (own_f0_1 x0 x1)), .val (.long (((x0 &&& (2147483647 : Int32)) % (21474837 : Int32)).toInt64)), .second, .unset, .unset, .val (.long (own_f0_2 x0 x1)), .second] []))
        refine own_Goes.step (fun t k => XT.lload X1.here hx rfl (hb hby at_62) rfl k) ?_
        show own_Goes p e below s (own_F0 Z x0 x1 n0 h0) room_1.cells room_1.slots (T1.setTop (mkF m 64 #[.val (.int x0), .val (.int x1), .val (.int ((x0 &&& (2147483647 : Int32)) % (21474837 : Int32))), .val (.int ((x1 &&& (2147483647 : Int32)) % (21 : Int32))), .val (.int (own_f0_1 x0 x1)), .val (.long (((x0 &&& (2147483647 : Int32)) % (21474837 : Int32)).toInt64)), .second, .unset, .unset, .val (.long (own_f0_2 x0 x1)), .second] [(.long (own_f0_2 x0 x1))]))
        refine own_Goes.step (fun t k => X1.ldc2J hx hown (mvT hZ (hw _ (List.mem_of_getElem? (i := 7) rfl))) rfl (hb hby at_64) k) ?_
        show own_Goes p e below s (own_F0 Z x0 x1 n0 h0) room_1.cells room_1.slots (T1.setTop (mkF m 67 #[.val (.int x0), .val (.int x1), .val (.int ((x0 &&& (2147483647 : Int32)) % (21474837 : Int32))), .val (.int ((x1 &&& (2147483647 : Int32)) % (21 : Int32))), .val (.int (own_f0_1 x0 x1)), .val (.long (((x0 &&& (2147483647 : Int32)) % (21474837 : Int32)).toInt64)), .second, .unset, .unset, .val (.long (own_f0_2 x0 x1)), .second] [(.long (20 : Int64)), (.long (own_f0_2 x0 x1))]))
        refine own_Goes.step (fun t k => XT.ldiv X1.here hx rfl (hb hby at_67) rfl (by decide) k) ?_
        show own_Goes p e below s (own_F0 Z x0 x1 n0 h0) room_1.cells room_1.slots (T1.setTop (mkF m 68 #[.val (.int x0), .val (.int x1), .val (.int ((x0 &&& (2147483647 : Int32)) % (21474837 : Int32))), .val (.int ((x1 &&& (2147483647 : Int32)) % (21 : Int32))), .val (.int (own_f0_1 x0 x1)), .val (.long (((x0 &&& (2147483647 : Int32)) % (21474837 : Int32)).toInt64)), .second, .unset, .unset, .val (.long (own_f0_2 x0 x1)), .second] [(.long ((own_f0_2 x0 x1) / (20 : Int64)))]))
        refine own_Goes.step (fun t k => XT.lstore X1.here hx rfl (hb hby at_68) rfl (l' := #[.val (.int x0), .val (.int x1), .val (.int ((x0 &&& (2147483647 : Int32)) % (21474837 : Int32))), .val (.int ((x1 &&& (2147483647 : Int32)) % (21 : Int32))), .val (.int (own_f0_1 x0 x1)), .val (.long (((x0 &&& (2147483647 : Int32)) % (21474837 : Int32)).toInt64)), .second, .val (.long ((own_f0_2 x0 x1) / (20 : Int64))), .second, .val (.long (own_f0_2 x0 x1)), .second]) rfl k) ?_
        show own_Goes p e below s (own_F0 Z x0 x1 n0 h0) room_1.cells room_1.slots (T1.setTop (mkF m 70 #[.val (.int x0), .val (.int x1), .val (.int ((x0 &&& (2147483647 : Int32)) % (21474837 : Int32))), .val (.int ((x1 &&& (2147483647 : Int32)) % (21 : Int32))), .val (.int (own_f0_1 x0 x1)), .val (.long (((x0 &&& (2147483647 : Int32)) % (21474837 : Int32)).toInt64)), .second, .val (.long ((own_f0_2 x0 x1) / (20 : Int64))), .second, .val (.long (own_f0_2 x0 x1)), .second] []))
        refine own_Goes.step (fun t k => XS.iload X1.here hx rfl (hb hby at_70) rfl k) ?_
        show own_Goes p e below s (own_F0 Z x0 x1 n0 h0) room_1.cells room_1.slots (T1.setTop (mkF m 72 #[.val (.int x0), .val (.int x1), .val (.int ((x0 &&& (2147483647 : Int32)) % (21474837 : Int32))), .val (.int ((x1 &&& (2147483647 : Int32)) % (21 : Int32))), .val (.int (own_f0_1 x0 x1)), .val (.long (((x0 &&& (2147483647 : Int32)) % (21474837 : Int32)).toInt64)), .second, .val (.long ((own_f0_2 x0 x1) / (20 : Int64))), .second, .val (.long (own_f0_2 x0 x1)), .second] [(.int (own_f0_1 x0 x1))]))
        refine own_Goes.step (fun t k => XT.i2l X1.here hx rfl (hb hby at_72) rfl k) ?_
        show own_Goes p e below s (own_F0 Z x0 x1 n0 h0) room_1.cells room_1.slots (T1.setTop (mkF m 73 #[.val (.int x0), .val (.int x1), .val (.int ((x0 &&& (2147483647 : Int32)) % (21474837 : Int32))), .val (.int ((x1 &&& (2147483647 : Int32)) % (21 : Int32))), .val (.int (own_f0_1 x0 x1)), .val (.long (((x0 &&& (2147483647 : Int32)) % (21474837 : Int32)).toInt64)), .second, .val (.long ((own_f0_2 x0 x1) / (20 : Int64))), .second, .val (.long (own_f0_2 x0 x1)), .second] [(.long ((own_f0_1 x0 x1).toInt64))]))
        refine own_Goes.step (fun t k => XT.lload X1.here hx rfl (hb hby at_73) rfl k) ?_
        show own_Goes p e below s (own_F0 Z x0 x1 n0 h0) room_1.cells room_1.slots (T1.setTop (mkF m 75 #[.val (.int x0), .val (.int x1), .val (.int ((x0 &&& (2147483647 : Int32)) % (21474837 : Int32))), .val (.int ((x1 &&& (2147483647 : Int32)) % (21 : Int32))), .val (.int (own_f0_1 x0 x1)), .val (.long (((x0 &&& (2147483647 : Int32)) % (21474837 : Int32)).toInt64)), .second, .val (.long ((own_f0_2 x0 x1) / (20 : Int64))), .second, .val (.long (own_f0_2 x0 x1)), .second] [(.long ((own_f0_2 x0 x1) / (20 : Int64))), (.long ((own_f0_1 x0 x1).toInt64))]))
        refine own_Goes.step (fun t k => XT.lcmp X1.here hx rfl (hb hby at_75) rfl k) ?_
        show own_Goes p e below s (own_F0 Z x0 x1 n0 h0) room_1.cells room_1.slots (T1.setTop (mkF m 76 #[.val (.int x0), .val (.int x1), .val (.int ((x0 &&& (2147483647 : Int32)) % (21474837 : Int32))), .val (.int ((x1 &&& (2147483647 : Int32)) % (21 : Int32))), .val (.int (own_f0_1 x0 x1)), .val (.long (((x0 &&& (2147483647 : Int32)) % (21474837 : Int32)).toInt64)), .second, .val (.long ((own_f0_2 x0 x1) / (20 : Int64))), .second, .val (.long (own_f0_2 x0 x1)), .second] [(.int (XT.cmpL ((own_f0_1 x0 x1).toInt64) ((own_f0_2 x0 x1) / (20 : Int64))))]))
        by_cases hc7 : ((own_f0_1 x0 x1).toInt64) = ((own_f0_2 x0 x1) / (20 : Int64))
        · refine own_Goes.step (fun t k => XS.ifNo X1.here hx rfl (hb hby at_76) rfl (XT.ll_ne_f hc7) k) ?_
          show own_Goes p e below s (own_F0 Z x0 x1 n0 h0) room_1.cells room_1.slots (T1.setTop (mkF m 79 #[.val (.int x0), .val (.int x1), .val (.int ((x0 &&& (2147483647 : Int32)) % (21474837 : Int32))), .val (.int ((x1 &&& (2147483647 : Int32)) % (21 : Int32))), .val (.int (own_f0_1 x0 x1)), .val (.long (((x0 &&& (2147483647 : Int32)) % (21474837 : Int32)).toInt64)), .second, .val (.long ((own_f0_2 x0 x1) / (20 : Int64))), .second, .val (.long (own_f0_2 x0 x1)), .second] []))
          refine own_Goes.step (fun t k => XS.iload X1.here hx rfl (hb hby at_79) rfl k) ?_
          show own_Goes p e below s (own_F0 Z x0 x1 n0 h0) room_1.cells room_1.slots (T1.setTop (mkF m 81 #[.val (.int x0), .val (.int x1), .val (.int ((x0 &&& (2147483647 : Int32)) % (21474837 : Int32))), .val (.int ((x1 &&& (2147483647 : Int32)) % (21 : Int32))), .val (.int (own_f0_1 x0 x1)), .val (.long (((x0 &&& (2147483647 : Int32)) % (21474837 : Int32)).toInt64)), .second, .val (.long ((own_f0_2 x0 x1) / (20 : Int64))), .second, .val (.long (own_f0_2 x0 x1)), .second] [(.int (own_f0_1 x0 x1))]))
          by_cases hc8 : (own_f0_1 x0 x1) < (0 : Int32)
          · refine own_Goes.step (fun t k => XS.ifYes X1.here hx rfl (pc0 := 81) (pc' := 101) rfl (hb hby at_81) rfl (XT.i0_lt_t hc8) (by decide) (by decide) k) ?_
            show own_Goes p e below s (own_F0 Z x0 x1 n0 h0) room_1.cells room_1.slots (T1.setTop (mkF m 101 #[.val (.int x0), .val (.int x1), .val (.int ((x0 &&& (2147483647 : Int32)) % (21474837 : Int32))), .val (.int ((x1 &&& (2147483647 : Int32)) % (21 : Int32))), .val (.int (own_f0_1 x0 x1)), .val (.long (((x0 &&& (2147483647 : Int32)) % (21474837 : Int32)).toInt64)), .second, .val (.long ((own_f0_2 x0 x1) / (20 : Int64))), .second, .val (.long (own_f0_2 x0 x1)), .second] []))
            refine own_Goes.step (fun t k => XT.iconstV X1.here hx rfl (0 : Int32) (hb hby at_101) (by decide) k) ?_
            show own_Goes p e below s (own_F0 Z x0 x1 n0 h0) room_1.cells room_1.slots (T1.setTop (mkF m 102 #[.val (.int x0), .val (.int x1), .val (.int ((x0 &&& (2147483647 : Int32)) % (21474837 : Int32))), .val (.int ((x1 &&& (2147483647 : Int32)) % (21 : Int32))), .val (.int (own_f0_1 x0 x1)), .val (.long (((x0 &&& (2147483647 : Int32)) % (21474837 : Int32)).toInt64)), .second, .val (.long ((own_f0_2 x0 x1) / (20 : Int64))), .second, .val (.long (own_f0_2 x0 x1)), .second] [(.int (0 : Int32))]))
            exact own_endN X1 hx Bd.notSynchronized (t := .boolean) Bd.returns (by simp) (hb hby at_102) ⟨(congrArg (fun z => some (Value.int z)) (show (0 : Int32) = own_f0 x0 x1 from by simp only [own_f0, if_neg hc2, if_pos hc6, if_pos hc7, if_pos hc8])), N0⟩ (by decide) (by decide)
          · refine own_Goes.step (fun t k => XS.ifNo X1.here hx rfl (hb hby at_81) rfl (XT.i0_lt_f hc8) k) ?_
            show own_Goes p e below s (own_F0 Z x0 x1 n0 h0) room_1.cells room_1.slots (T1.setTop (mkF m 84 #[.val (.int x0), .val (.int x1), .val (.int ((x0 &&& (2147483647 : Int32)) % (21474837 : Int32))), .val (.int ((x1 &&& (2147483647 : Int32)) % (21 : Int32))), .val (.int (own_f0_1 x0 x1)), .val (.long (((x0 &&& (2147483647 : Int32)) % (21474837 : Int32)).toInt64)), .second, .val (.long ((own_f0_2 x0 x1) / (20 : Int64))), .second, .val (.long (own_f0_2 x0 x1)), .second] []))
            refine own_Goes.step (fun t k => XS.iload X1.here hx rfl (hb hby at_84) rfl k) ?_
            show own_Goes p e below s (own_F0 Z x0 x1 n0 h0) room_1.cells room_1.slots (T1.setTop (mkF m 86 #[.val (.int x0), .val (.int x1), .val (.int ((x0 &&& (2147483647 : Int32)) % (21474837 : Int32))), .val (.int ((x1 &&& (2147483647 : Int32)) % (21 : Int32))), .val (.int (own_f0_1 x0 x1)), .val (.long (((x0 &&& (2147483647 : Int32)) % (21474837 : Int32)).toInt64)), .second, .val (.long ((own_f0_2 x0 x1) / (20 : Int64))), .second, .val (.long (own_f0_2 x0 x1)), .second] [(.int (own_f0_1 x0 x1))]))
            refine own_Goes.step (fun t k => XT.i2l X1.here hx rfl (hb hby at_86) rfl k) ?_
            show own_Goes p e below s (own_F0 Z x0 x1 n0 h0) room_1.cells room_1.slots (T1.setTop (mkF m 87 #[.val (.int x0), .val (.int x1), .val (.int ((x0 &&& (2147483647 : Int32)) % (21474837 : Int32))), .val (.int ((x1 &&& (2147483647 : Int32)) % (21 : Int32))), .val (.int (own_f0_1 x0 x1)), .val (.long (((x0 &&& (2147483647 : Int32)) % (21474837 : Int32)).toInt64)), .second, .val (.long ((own_f0_2 x0 x1) / (20 : Int64))), .second, .val (.long (own_f0_2 x0 x1)), .second] [(.long ((own_f0_1 x0 x1).toInt64))]))
            refine own_Goes.step (fun t k => X1.ldc2J hx hown (mvT hZ (hw _ (List.mem_of_getElem? (i := 6) rfl))) rfl (hb hby at_87) k) ?_
            show own_Goes p e below s (own_F0 Z x0 x1 n0 h0) room_1.cells room_1.slots (T1.setTop (mkF m 90 #[.val (.int x0), .val (.int x1), .val (.int ((x0 &&& (2147483647 : Int32)) % (21474837 : Int32))), .val (.int ((x1 &&& (2147483647 : Int32)) % (21 : Int32))), .val (.int (own_f0_1 x0 x1)), .val (.long (((x0 &&& (2147483647 : Int32)) % (21474837 : Int32)).toInt64)), .second, .val (.long ((own_f0_2 x0 x1) / (20 : Int64))), .second, .val (.long (own_f0_2 x0 x1)), .second] [(.long (100 : Int64)), (.long ((own_f0_1 x0 x1).toInt64))]))
            refine own_Goes.step (fun t k => XT.lload X1.here hx rfl (hb hby at_90) rfl k) ?_
            show own_Goes p e below s (own_F0 Z x0 x1 n0 h0) room_1.cells room_1.slots (T1.setTop (mkF m 92 #[.val (.int x0), .val (.int x1), .val (.int ((x0 &&& (2147483647 : Int32)) % (21474837 : Int32))), .val (.int ((x1 &&& (2147483647 : Int32)) % (21 : Int32))), .val (.int (own_f0_1 x0 x1)), .val (.long (((x0 &&& (2147483647 : Int32)) % (21474837 : Int32)).toInt64)), .second, .val (.long ((own_f0_2 x0 x1) / (20 : Int64))), .second, .val (.long (own_f0_2 x0 x1)), .second] [(.long (((x0 &&& (2147483647 : Int32)) % (21474837 : Int32)).toInt64)), (.long (100 : Int64)), (.long ((own_f0_1 x0 x1).toInt64))]))
            refine own_Goes.step (fun t k => XT.lmul X1.here hx rfl (hb hby at_92) rfl k) ?_
            show own_Goes p e below s (own_F0 Z x0 x1 n0 h0) room_1.cells room_1.slots (T1.setTop (mkF m 93 #[.val (.int x0), .val (.int x1), .val (.int ((x0 &&& (2147483647 : Int32)) % (21474837 : Int32))), .val (.int ((x1 &&& (2147483647 : Int32)) % (21 : Int32))), .val (.int (own_f0_1 x0 x1)), .val (.long (((x0 &&& (2147483647 : Int32)) % (21474837 : Int32)).toInt64)), .second, .val (.long ((own_f0_2 x0 x1) / (20 : Int64))), .second, .val (.long (own_f0_2 x0 x1)), .second] [(.long ((100 : Int64) * (((x0 &&& (2147483647 : Int32)) % (21474837 : Int32)).toInt64))), (.long ((own_f0_1 x0 x1).toInt64))]))
            refine own_Goes.step (fun t k => XT.lcmp X1.here hx rfl (hb hby at_93) rfl k) ?_
            show own_Goes p e below s (own_F0 Z x0 x1 n0 h0) room_1.cells room_1.slots (T1.setTop (mkF m 94 #[.val (.int x0), .val (.int x1), .val (.int ((x0 &&& (2147483647 : Int32)) % (21474837 : Int32))), .val (.int ((x1 &&& (2147483647 : Int32)) % (21 : Int32))), .val (.int (own_f0_1 x0 x1)), .val (.long (((x0 &&& (2147483647 : Int32)) % (21474837 : Int32)).toInt64)), .second, .val (.long ((own_f0_2 x0 x1) / (20 : Int64))), .second, .val (.long (own_f0_2 x0 x1)), .second] [(.int (XT.cmpL ((own_f0_1 x0 x1).toInt64) ((100 : Int64) * (((x0 &&& (2147483647 : Int32)) % (21474837 : Int32)).toInt64))))]))
            by_cases hc9 : ((100 : Int64) * (((x0 &&& (2147483647 : Int32)) % (21474837 : Int32)).toInt64)) < ((own_f0_1 x0 x1).toInt64)
            · refine own_Goes.step (fun t k => XS.ifYes X1.here hx rfl (pc0 := 94) (pc' := 101) rfl (hb hby at_94) rfl (XT.ll_gt_t hc9) (by decide) (by decide) k) ?_
              show own_Goes p e below s (own_F0 Z x0 x1 n0 h0) room_1.cells room_1.slots (T1.setTop (mkF m 101 #[.val (.int x0), .val (.int x1), .val (.int ((x0 &&& (2147483647 : Int32)) % (21474837 : Int32))), .val (.int ((x1 &&& (2147483647 : Int32)) % (21 : Int32))), .val (.int (own_f0_1 x0 x1)), .val (.long (((x0 &&& (2147483647 : Int32)) % (21474837 : Int32)).toInt64)), .second, .val (.long ((own_f0_2 x0 x1) / (20 : Int64))), .second, .val (.long (own_f0_2 x0 x1)), .second] []))
              refine own_Goes.step (fun t k => XT.iconstV X1.here hx rfl (0 : Int32) (hb hby at_101) (by decide) k) ?_
              show own_Goes p e below s (own_F0 Z x0 x1 n0 h0) room_1.cells room_1.slots (T1.setTop (mkF m 102 #[.val (.int x0), .val (.int x1), .val (.int ((x0 &&& (2147483647 : Int32)) % (21474837 : Int32))), .val (.int ((x1 &&& (2147483647 : Int32)) % (21 : Int32))), .val (.int (own_f0_1 x0 x1)), .val (.long (((x0 &&& (2147483647 : Int32)) % (21474837 : Int32)).toInt64)), .second, .val (.long ((own_f0_2 x0 x1) / (20 : Int64))), .second, .val (.long (own_f0_2 x0 x1)), .second] [(.int (0 : Int32))]))
              exact own_endN X1 hx Bd.notSynchronized (t := .boolean) Bd.returns (by simp) (hb hby at_102) ⟨(congrArg (fun z => some (Value.int z)) (show (0 : Int32) = own_f0 x0 x1 from by simp only [own_f0, if_neg hc2, if_pos hc6, if_pos hc7, if_neg hc8, if_pos hc9])), N0⟩ (by decide) (by decide)
            · refine own_Goes.step (fun t k => XS.ifNo X1.here hx rfl (hb hby at_94) rfl (XT.ll_gt_f hc9) k) ?_
              show own_Goes p e below s (own_F0 Z x0 x1 n0 h0) room_1.cells room_1.slots (T1.setTop (mkF m 97 #[.val (.int x0), .val (.int x1), .val (.int ((x0 &&& (2147483647 : Int32)) % (21474837 : Int32))), .val (.int ((x1 &&& (2147483647 : Int32)) % (21 : Int32))), .val (.int (own_f0_1 x0 x1)), .val (.long (((x0 &&& (2147483647 : Int32)) % (21474837 : Int32)).toInt64)), .second, .val (.long ((own_f0_2 x0 x1) / (20 : Int64))), .second, .val (.long (own_f0_2 x0 x1)), .second] []))
              refine own_Goes.step (fun t k => XT.iconstV X1.here hx rfl (1 : Int32) (hb hby at_97) (by decide) k) ?_
              show own_Goes p e below s (own_F0 Z x0 x1 n0 h0) room_1.cells room_1.slots (T1.setTop (mkF m 98 #[.val (.int x0), .val (.int x1), .val (.int ((x0 &&& (2147483647 : Int32)) % (21474837 : Int32))), .val (.int ((x1 &&& (2147483647 : Int32)) % (21 : Int32))), .val (.int (own_f0_1 x0 x1)), .val (.long (((x0 &&& (2147483647 : Int32)) % (21474837 : Int32)).toInt64)), .second, .val (.long ((own_f0_2 x0 x1) / (20 : Int64))), .second, .val (.long (own_f0_2 x0 x1)), .second] [(.int (1 : Int32))]))
              refine own_Goes.step (fun t k => XS.goto X1.here hx rfl (pc0 := 98) (pc' := 102) rfl (hb hby at_98) (by decide) (by decide) k) ?_
              show own_Goes p e below s (own_F0 Z x0 x1 n0 h0) room_1.cells room_1.slots (T1.setTop (mkF m 102 #[.val (.int x0), .val (.int x1), .val (.int ((x0 &&& (2147483647 : Int32)) % (21474837 : Int32))), .val (.int ((x1 &&& (2147483647 : Int32)) % (21 : Int32))), .val (.int (own_f0_1 x0 x1)), .val (.long (((x0 &&& (2147483647 : Int32)) % (21474837 : Int32)).toInt64)), .second, .val (.long ((own_f0_2 x0 x1) / (20 : Int64))), .second, .val (.long (own_f0_2 x0 x1)), .second] [(.int (1 : Int32))]))
              exact own_endN X1 hx Bd.notSynchronized (t := .boolean) Bd.returns (by simp) (hb hby at_102) ⟨(congrArg (fun z => some (Value.int z)) (show (1 : Int32) = own_f0 x0 x1 from by simp only [own_f0, if_neg hc2, if_pos hc6, if_pos hc7, if_neg hc8, if_neg hc9])), N0⟩ (by decide) (by decide)
        · refine own_Goes.step (fun t k => XS.ifYes X1.here hx rfl (pc0 := 76) (pc' := 101) rfl (hb hby at_76) rfl (XT.ll_ne_t hc7) (by decide) (by decide) k) ?_
          show own_Goes p e below s (own_F0 Z x0 x1 n0 h0) room_1.cells room_1.slots (T1.setTop (mkF m 101 #[.val (.int x0), .val (.int x1), .val (.int ((x0 &&& (2147483647 : Int32)) % (21474837 : Int32))), .val (.int ((x1 &&& (2147483647 : Int32)) % (21 : Int32))), .val (.int (own_f0_1 x0 x1)), .val (.long (((x0 &&& (2147483647 : Int32)) % (21474837 : Int32)).toInt64)), .second, .val (.long ((own_f0_2 x0 x1) / (20 : Int64))), .second, .val (.long (own_f0_2 x0 x1)), .second] []))
          refine own_Goes.step (fun t k => XT.iconstV X1.here hx rfl (0 : Int32) (hb hby at_101) (by decide) k) ?_
          show own_Goes p e below s (own_F0 Z x0 x1 n0 h0) room_1.cells room_1.slots (T1.setTop (mkF m 102 #[.val (.int x0), .val (.int x1), .val (.int ((x0 &&& (2147483647 : Int32)) % (21474837 : Int32))), .val (.int ((x1 &&& (2147483647 : Int32)) % (21 : Int32))), .val (.int (own_f0_1 x0 x1)), .val (.long (((x0 &&& (2147483647 : Int32)) % (21474837 : Int32)).toInt64)), .second, .val (.long ((own_f0_2 x0 x1) / (20 : Int64))), .second, .val (.long (own_f0_2 x0 x1)), .second] [(.int (0 : Int32))]))
          exact own_endN X1 hx Bd.notSynchronized (t := .boolean) Bd.returns (by simp) (hb hby at_102) ⟨(congrArg (fun z => some (Value.int z)) (show (0 : Int32) = own_f0 x0 x1 from by simp only [own_f0, if_neg hc2, if_pos hc6, if_neg hc7])), N0⟩ (by decide) (by decide)
      · refine own_Goes.step (fun t k => XS.ifNo X1.here hx rfl (hb hby at_57) rfl (XT.ll_eq_f hc6) k) ?_
        show own_Goes p e below s (own_F0 Z x0 x1 n0 h0) room_1.cells room_1.slots (T1.setTop (mkF m 60 #[.val (.int x0), .val (.int x1), .val (.int ((x0 &&& (2147483647 : Int32)) % (21474837 : Int32))), .val (.int ((x1 &&& (2147483647 : Int32)) % (21 : Int32))), .val (.int (own_f0_1 x0 x1)), .val (.long (((x0 &&& (2147483647 : Int32)) % (21474837 : Int32)).toInt64)), .second, .unset, .unset, .val (.long (own_f0_2 x0 x1)), .second] []))
        refine own_Goes.step (fun t k => XT.iconstV X1.here hx rfl (0 : Int32) (hb hby at_60) (by decide) k) ?_
        show own_Goes p e below s (own_F0 Z x0 x1 n0 h0) room_1.cells room_1.slots (T1.setTop (mkF m 61 #[.val (.int x0), .val (.int x1), .val (.int ((x0 &&& (2147483647 : Int32)) % (21474837 : Int32))), .val (.int ((x1 &&& (2147483647 : Int32)) % (21 : Int32))), .val (.int (own_f0_1 x0 x1)), .val (.long (((x0 &&& (2147483647 : Int32)) % (21474837 : Int32)).toInt64)), .second, .unset, .unset, .val (.long (own_f0_2 x0 x1)), .second] [(.int (0 : Int32))]))
        exact own_endN X1 hx Bd.notSynchronized (t := .boolean) Bd.returns (by simp) (hb hby at_61) ⟨(congrArg (fun z => some (Value.int z)) (show (0 : Int32) = own_f0 x0 x1 from by simp only [own_f0, if_neg hc2, if_neg hc6])), N0⟩ (by decide) (by decide)
  obtain ⟨t2, o2, q1, q2, q3, q4⟩ := hgo
  exact ⟨t2, o2, castTop (ef_0 m x0 x1) q1, q2, q3, q4⟩
theorem own_law (x0 x1 : Int32) : own_f0 x0 x1 = 1 := by
  have a1 : (x0 &&& (2147483647 : Int32)).toInt = x0.toInt % 2 ^ 31 := Jvm.Kit.i32_mask x0 2147483647 (k := 31) (by decide) (by decide)
  have a2 : (x1 &&& (2147483647 : Int32)).toInt = x1.toInt % 2 ^ 31 := Jvm.Kit.i32_mask x1 2147483647 (k := 31) (by decide) (by decide)
  have b1 : ((x0 &&& (2147483647 : Int32)) % (21474837 : Int32)).toInt = (x0 &&& (2147483647 : Int32)).toInt % 21474837 := Jvm.Kit.i32_rem_nonneg (by omega)
  have b2 : ((x1 &&& (2147483647 : Int32)) % (21 : Int32)).toInt = (x1 &&& (2147483647 : Int32)).toInt % 21 := Jvm.Kit.i32_rem_nonneg (by omega)
  unfold own_f0 own_f0_1 own_f0_2 own_f1 own_f1_1
  have c1 : 0 ≤ ((x0 &&& (2147483647 : Int32)) % (21474837 : Int32)).toInt ∧ ((x0 &&& (2147483647 : Int32)) % (21474837 : Int32)).toInt ≤ 21474836 := by omega
  have c2 : 0 ≤ ((x1 &&& (2147483647 : Int32)) % (21 : Int32)).toInt ∧ ((x1 &&& (2147483647 : Int32)) % (21 : Int32)).toInt ≤ 20 := by omega
  generalize (x0 &&& (2147483647 : Int32)) % (21474837 : Int32) = w at *
  generalize (x1 &&& (2147483647 : Int32)) % (21 : Int32) = t at *
  clear a1 a2 b1 b2
  obtain ⟨c1, c1'⟩ := c1
  obtain ⟨c2, c2'⟩ := c2
  have q0 : 0 ≤ w.toInt * t.toInt := Int.mul_nonneg c1 c2
  have q1 : w.toInt * t.toInt ≤ 21474836 * 20 := Int.mul_le_mul c1' c2' c2 (by decide)
  have l1 : w.toInt64.toInt = w.toInt := Jvm.Kit.i64_of_i32 w
  have l2 : t.toInt64.toInt = t.toInt := Jvm.Kit.i64_of_i32 t
  have m1 : (w.toInt64 * (100 : Int64)).toInt = w.toInt * 100 := by
    rw [Jvm.Kit.i64_mul (by rw [l1]; show _ ≤ w.toInt * 100; omega) (by rw [l1]; show w.toInt * 100 < _; omega), l1]; rfl
  have e2 : w.toInt * 100 * t.toInt = 100 * (w.toInt * t.toInt) := by rw [Int.mul_comm w.toInt 100, Int.mul_assoc]
  have m2 : (w.toInt64 * (100 : Int64) * t.toInt64).toInt = 100 * (w.toInt * t.toInt) := by
    rw [Jvm.Kit.i64_mul (by rw [m1, l2, e2]; omega) (by rw [m1, l2, e2]; omega), m1, l2, e2]
  have m3 : ((100 : Int64) * w.toInt64).toInt = 100 * w.toInt := by
    rw [Jvm.Kit.i64_mul (by rw [l1]; show _ ≤ 100 * w.toInt; omega) (by rw [l1]; show 100 * w.toInt < _; omega), l1]; rfl
  by_cases ht : t = 0
  · have hz : t.toInt = 0 := by rw [ht]; rfl
    have hn : ¬ w < 0 := by rw [own_lt32, Int32.toInt_zero]; omega
    have hle : ¬ (100 : Int64) * w.toInt64 < w.toInt64 := by rw [own_lt64, m3, l1]; omega
    simp only [if_pos ht, if_neg hn, if_neg hle, if_true]
  · have hz : t.toInt ≠ 0 := fun q => ht (by rw [own_eq32]; exact q)
    have r1 : ((w.toInt64 * (100 : Int64) * t.toInt64) % (20 : Int64)) = 0 := by
      rw [own_eq64, Int64.toInt_mod, m2]
      show (100 * (w.toInt * t.toInt)).tmod 20 = 0
      rw [Int.tmod_eq_emod_of_nonneg (by omega)]
      omega
    have d1 : ((w.toInt64 * (100 : Int64) * t.toInt64) / (20 : Int64)).toInt = 5 * (w.toInt * t.toInt) := by
      rw [Jvm.Kit.i64_div (by rw [m2]; intro q; exact absurd q.2 (by decide)), m2]
      show (100 * (w.toInt * t.toInt)).tdiv 20 = _
      rw [Int.tdiv_eq_ediv_of_nonneg (by omega)]
      omega
    by_cases h20 : t < 20
    · have n1 : (w * (5 : Int32)).toInt = w.toInt * 5 := Jvm.Kit.i32_mul (by show _ ≤ w.toInt * 5; omega) (by show w.toInt * 5 < _; omega)
      have e5 : w.toInt * 5 * t.toInt = 5 * (w.toInt * t.toInt) := by rw [Int.mul_comm w.toInt 5, Int.mul_assoc]
      have n2 : (w * (5 : Int32) * t).toInt = 5 * (w.toInt * t.toInt) := by
        rw [Jvm.Kit.i32_mul (by rw [n1, e5]; omega) (by rw [n1, e5]; omega), n1, e5]
      have t19 : t.toInt ≤ 20 := c2'
      have q2 : w.toInt * t.toInt ≤ w.toInt * 20 := Int.mul_le_mul_of_nonneg_left t19 c1
      have g1 : (w * (5 : Int32) * t).toInt64 = (w.toInt64 * (100 : Int64) * t.toInt64) / (20 : Int64) := by
        rw [own_eq64, d1, Jvm.Kit.i64_of_i32, n2]
      have g2 : ¬ (w * (5 : Int32) * t) < 0 := by rw [own_lt32, n2, Int32.toInt_zero]; omega
      have g3 : ¬ (100 : Int64) * w.toInt64 < (w * (5 : Int32) * t).toInt64 := by rw [own_lt64, m3, Jvm.Kit.i64_of_i32, n2]; omega
      simp only [if_neg ht, if_pos h20, if_pos r1, if_pos g1, if_neg g2, if_neg g3]
    · have ht20 : t.toInt = 20 := by
        rw [own_lt32] at h20
        have : (20 : Int32).toInt = 20 := rfl
        omega
      have n1 : (w * (100 : Int32)).toInt = w.toInt * 100 := Jvm.Kit.i32_mul (by show _ ≤ w.toInt * 100; omega) (by show w.toInt * 100 < _; omega)
      have g1 : (w * (100 : Int32)).toInt64 = (w.toInt64 * (100 : Int64) * t.toInt64) / (20 : Int64) := by
        rw [own_eq64, d1, Jvm.Kit.i64_of_i32, n1, ht20]; omega
      have g2 : ¬ (w * (100 : Int32)) < 0 := by rw [own_lt32, n1, Int32.toInt_zero]; omega
      have g3 : ¬ (100 : Int64) * w.toInt64 < (w * (100 : Int32)).toInt64 := by rw [own_lt64, m3, Jvm.Kit.i64_of_i32, n1]; omega
      simp only [if_neg ht, if_neg h20, if_pos r1, if_pos g1, if_neg g2, if_neg g3]
set_option maxRecDepth 65536 in
set_option maxHeartbeats 40000000 in
theorem comes_1 {Post : Tables → Env → Array Value → State → Outcome → State → Prop} (hpost : ∀ tb e args s v u, (limb_1_1.after args s (.returned v) u = true ∧ limb_1_2.after args s (.returned v) u = true ∧ True) → FrameEnd s (.returned v) u (Jvm.fieldLocs frame_1_writes args s ++ Jvm.arrayLocs frame_1_arrays args s ++ Jvm.staticLocs frame_1_statics s) 0 0 → Post tb e args s (.returned v) u) :
    ArmFor flags0 classFile x code maxLocals ret World_1 tables_1 room_1 Calls_1 rest_1 Pre_1 Post := by
  intro l hfl _ _ p e ha hc hk s m args below hf hA hF happ hP
  obtain ⟨hcalls, hrest, hpre⟩ := hP
  obtain ⟨-, -, -, hnamed, -, -, -, hat⟩ := (Spec.applies_iff hf).mp happ
  obtain ⟨hg, hn⟩ := and_e (Cond.before_iff.mp (show (Jvm.Cond.and given_1 narrow_1).before args s = true from hpre))
  obtain ⟨hcount, hr0⟩ := and_e hg
  obtain ⟨w0, w1, rfl⟩ : ∃ w0 w1 : Value, args = #[w0, w1] := by
    have hs : args.size = 2 := by simpa [Cond.value, given_1] using hcount
    obtain ⟨L⟩ := args
    match L, hs with
    | [w0, w1], _ => exact ⟨w0, w1, rfl⟩
  have hw := fun d (hd : d ∈ tables_1) => atoms_spec (ws := Jvm.Cond.code x code maxLocals ret :: tables_1) hat d (List.mem_cons_of_mem _ hd)
  obtain ⟨ha0, hr1⟩ := and_e hr0
  obtain ⟨i0, ev0⟩ := is_v ha0
  obtain rfl : w0 = (.int i0) := Option.some.inj ev0
  obtain ⟨i1, ev1⟩ := is_v hr1
  obtain rfl : w1 = (.int i1) := Option.some.inj ev1
  obtain ⟨n, o, h1, h2, h3, _, L, rfl, ⟨rfl, N⟩, hq⟩ := own_m0 l s _ hw tables_1 i0 i1 s.heap.size s.heap (Nat.le_refl _) p e ha hc hk s m _ below hf ((Spec.applies_iff_loose hf).mp happ).1 ⟨rfl, State.Warmed39.refl s, rfl⟩ trivial
  rw [own_law i0 i1] at h3 hq
  refine ⟨n, _, h1, h2, h3, hpost _ _ _ _ _ _ ⟨Cond.after_iff.mpr rfl, Cond.after_iff.mpr (eq_i res_at (Term.int_eval (1)) rfl), trivial⟩ ⟨hq.1, hq.2.1, (hq.2.2.sift fun y hy => Or.inr (N y hy)).mono (by decide) (by decide)⟩⟩
theorem main_1_1 : Claimed_1_1 := comes_1 fun _ _ _ _ _ _ h hF => ⟨h.1, hF⟩
theorem main_1_2 : Claimed_1_2 := comes_1 fun _ _ _ _ _ _ h hF => ⟨h.2.1, hF⟩
end Jvm.Pilot.@@N@@
namespace Jvm.Pilot.@@N@@
open Jvm Jvm.ClassFile Sem Op Lib Jvm.Free Jvm.Stand Jvm.Pilot.@@N@@.Jvm.D
/-! MADE BY PROGRAM (witnessworld.py) out of the Statement's table words and the real class files: 9 classes; the members and pool entries that the words name. The judged class is class 1, her method 1. -/
namespace start1
open Jvm.ClassFile
def u (s : String) : CpInfo := .utf8 (stringToUtf16 s)
/-- a pool by its gaps: so many unusable entries, then the entry; so many at the end -/
def gap : Nat → List CpInfo → List CpInfo
  | 0, r => r
  | n + 1, r => .unusable :: gap n r
def poolList (es : List (Nat × CpInfo)) (last : Nat) : List CpInfo := es.foldr (fun e r => gap e.1 (e.2 :: r)) (gap last [])
def pool (es : List (Nat × CpInfo)) (last : Nat) : Array CpInfo := ⟨poolList es last⟩
def fileOf (pool : Array CpInfo) (this : Nat) (attrs : Array Attribute := #[]) (ms : Array MethodInfo := #[]) (fl : Nat := 33) (sup : Nat := 0) (ifs : Array Nat := #[]) (fds : Array FieldInfo := #[]) : ClassFile where
  minorVersion := 0
  majorVersion := 65
  constantPool := pool
  accessFlags := fl
  thisClass := this
  superClass := sup
  interfaces := ifs
  fields := fds
  methods := ms
  attributes := attrs
def plain (name : String) (sup : Option ClassId) : Class where
  name := name
  kind := .ordinary
  loader := none
  accessFlags := 33
  super := sup
  interfaces := #[]
  cf := none
  fields := #[]
  methods := #[]
  instanceTypes := #[]
  staticTypes := #[]
  resolved := #[]
  callSites := []
  init := .initialized
  statics := none
  mirror := none

def pool0 : Array CpInfo := pool [(5, u "<init>"), (0, u "()V"), (1, .class_ 10), (1, u "java/lang/Object")] 113

def k0m0 : Method := { name := "<init>", desc := "()V", sig := { parameters := [], returnType := none }, accessFlags := 1, code := none }
/-- java/lang/Object -/
def k0 : Class := { plain "java/lang/Object" none with
  accessFlags := 33
  interfaces := #[]
  cf := some (fileOf pool0 8 #[] #[{ accessFlags := 1, nameIndex := 5, descriptorIndex := 6, attributes := #[] }] 33 0 #[] #[])
  fields := #[]
  methods := #[k0m0]
  instanceTypes := #[]
  staticTypes := #[]
  resolved := Array.replicate 124 none
  statics := none }

def pool1 : Array CpInfo := pool [(2, .class_ 4), (1, u "java/lang/Object"), (0, u "<init>"), (0, u "()V"), (0, .integer 2147483647), (0, .class_ 9), (0, u "com/example/instance_picker/instancepicker/WarmUp"), (0, .integer 21474837), (0, .methodref 8 12), (0, .nameAndType 13 14), (0, u "hundredthsAt"), (0, u "(II)I"), (0, .long 100), (1, .long 20), (1, .class_ 20), (0, u "com/example/instance_picker/instancepicker/WarmUpHundredthsAtPinLaw"), (2, u "law"), (0, u "(II)Z")] 3

def k1m0 : Method := { name := "<init>", desc := "()V", sig := { parameters := [], returnType := none }, accessFlags := 1, code := none }
def k1c1 : Code := { maxStack := 6, maxLocals := 11, code := code, exceptionTable := #[], attributes := #[] }
def k1m1 : Method := { name := "law", desc := "(II)Z", sig := { parameters := [.int, .int], returnType := some .boolean }, accessFlags := 9, code := some k1c1 }
/-- com/example/instance_picker/instancepicker/WarmUpHundredthsAtPinLaw -/
def k1 : Class := { plain "com/example/instance_picker/instancepicker/WarmUpHundredthsAtPinLaw" (some 0) with
  accessFlags := 49
  interfaces := #[]
  cf := some (fileOf pool1 19 #[] #[{ accessFlags := 1, nameIndex := 5, descriptorIndex := 6, attributes := #[] }, { accessFlags := 9, nameIndex := 23, descriptorIndex := 24, attributes := #[] }] 49 2 #[] #[])
  fields := #[]
  methods := #[k1m0, k1m1]
  instanceTypes := #[]
  staticTypes := #[]
  resolved := Array.replicate 28 none
  statics := none }

def pool2 : Array CpInfo := pool [(3, .class_ 4), (0, u "com/example/instance_picker/instancepicker/WarmUp"), (1, .class_ 8), (1, u "java/lang/Object"), (4, u "stepStarts"), (0, u "[J"), (2, u "nanos"), (0, u "J"), (2, u "clock"), (0, u "Ljava/util/function/LongSupplier;"), (4, u "NONE"), (0, u "Lcom/example/instance_picker/instancepicker/WarmUp;"), (54, u "hundredthsAt"), (0, u "(II)I"), (15, u "STEPS"), (0, u "I"), (2, u "HEAVIEST_WEIGHT"), (0, u "HUNDREDTHS"), (1, u "HUNDREDTHS_PER_STEP")] 44

def k2c0 : Code := { maxStack := 2, maxLocals := 3, code := prog_48_method_8_code, exceptionTable := #[], attributes := #[] }
def k2m0 : Method := { name := "hundredthsAt", desc := "(II)I", sig := { parameters := [.int, .int], returnType := some .int }, accessFlags := 8, code := some k2c0 }
/-- com/example/instance_picker/instancepicker/WarmUp -/
def k2 : Class := { plain "com/example/instance_picker/instancepicker/WarmUp" (some 0) with
  accessFlags := 48
  interfaces := #[]
  cf := some (fileOf pool2 3 #[] #[{ accessFlags := 8, nameIndex := 83, descriptorIndex := 84, attributes := #[] }] 48 6 #[] #[{ accessFlags := 24, nameIndex := 100, descriptorIndex := 101, attributes := #[] }, { accessFlags := 24, nameIndex := 104, descriptorIndex := 101, attributes := #[] }, { accessFlags := 24, nameIndex := 27, descriptorIndex := 28, attributes := #[] }, { accessFlags := 26, nameIndex := 105, descriptorIndex := 101, attributes := #[] }, { accessFlags := 26, nameIndex := 107, descriptorIndex := 101, attributes := #[] }, { accessFlags := 18, nameIndex := 17, descriptorIndex := 18, attributes := #[] }, { accessFlags := 18, nameIndex := 21, descriptorIndex := 22, attributes := #[] }, { accessFlags := 18, nameIndex := 13, descriptorIndex := 14, attributes := #[] }])
  fields := #[{ name := "STEPS", type := .int, accessFlags := 24, slot := 0, constantValue := 0 }, { name := "HEAVIEST_WEIGHT", type := .int, accessFlags := 24, slot := 1, constantValue := 0 }, { name := "NONE", type := (.object "com/example/instance_picker/instancepicker/WarmUp"), accessFlags := 24, slot := 2, constantValue := 0 }, { name := "HUNDREDTHS", type := .int, accessFlags := 26, slot := 3, constantValue := 0 }, { name := "HUNDREDTHS_PER_STEP", type := .int, accessFlags := 26, slot := 4, constantValue := 0 }, { name := "nanos", type := .long, accessFlags := 18, slot := 0, constantValue := 0 }, { name := "clock", type := (.object "java/util/function/LongSupplier"), accessFlags := 18, slot := 1, constantValue := 0 }, { name := "stepStarts", type := (.array .long), accessFlags := 18, slot := 2, constantValue := 0 }]
  methods := #[k2m0]
  instanceTypes := #[.long, (.object "java/util/function/LongSupplier"), (.array .long)]
  staticTypes := #[.int, .int, (.object "com/example/instance_picker/instancepicker/WarmUp"), .int, .int]
  resolved := Array.replicate 152 none
  statics := none }

def pool3 : Array CpInfo := pool [(1, u "java/lang/Cloneable"), (0, .class_ 1), (0, u "java/lang/Object"), (0, .class_ 3)] 3

/-- java/lang/Cloneable -/
def k3 : Class := { plain "java/lang/Cloneable" (some 0) with
  accessFlags := 1537
  interfaces := #[]
  cf := some (fileOf pool3 2 #[] #[] 1537 4 #[] #[])
  fields := #[]
  methods := #[]
  instanceTypes := #[]
  staticTypes := #[]
  resolved := Array.replicate 8 none
  statics := none }

def pool4 : Array CpInfo := pool [(1, u "java/io/Serializable"), (0, .class_ 1), (0, u "java/lang/Object"), (0, .class_ 3)] 3

/-- java/io/Serializable -/
def k4 : Class := { plain "java/io/Serializable" (some 0) with
  accessFlags := 1537
  interfaces := #[]
  cf := some (fileOf pool4 2 #[] #[] 1537 4 #[] #[])
  fields := #[]
  methods := #[]
  instanceTypes := #[]
  staticTypes := #[]
  resolved := Array.replicate 8 none
  statics := none }

/-- the primitive byte -/
def k5 : Class := { plain "byte" none with kind := .primitive 'B', accessFlags := 0x411 }
/-- [B -/
def k6 : Class := { plain "[B" (some 0) with kind := .array 5 .byte, interfaces := #[3, 4], accessFlags := 1041 }

/-- the primitive int -/
def k7 : Class := { plain "int" none with kind := .primitive 'I', accessFlags := 0x411 }
/-- [I -/
def k8 : Class := { plain "[I" (some 0) with kind := .array 7 .int, interfaces := #[3, 4], accessFlags := 1041 }

def heap : Heap := #[]
def classes : Array Class := #[k0, k1, k2, k3, k4, k5, k6, k7, k8]
def interned : List (Array UInt16 × Addr) := []
def slotsUsed : Nat := 0
def theMethod : MethodId := ⟨1, 1⟩
def args0 : Array Value := #[.int 7, .int 3]
def aboutOver (below : List Frame) : State where
  vm := { classes := classes, interned := interned.toArray }
  heap := heap
  slotsUsed := slotsUsed
  threads := #[{ frames := .invoking theMethod args0 :: below }]
def below0 : List Frame := [.native { method := ⟨0, 0⟩, args := #[] }]
def about1 : State := aboutOver below0
def p0 : Program := .bare "" "" ""
def e0 : Env := launch0.env 0 0 0
theorem w_frames : about1.frames = Frame.invoking theMethod args0 :: below0 := rfl
set_option maxRecDepth 65536 in
theorem w_args : argsFit about1.vm theMethod args0 = true := by decide +kernel
set_option maxRecDepth 65536 in
theorem w_heap : heapFits about1 = true := by decide +kernel
set_option maxRecDepth 65536 in
theorem w_runnable : about1.curStatus? = some .runnable := by decide +kernel
set_option maxRecDepth 65536 in
theorem w_alone : about1.alone = true := by decide +kernel
set_option maxRecDepth 65536 in
theorem w_named : about1.methodNamed? x = some theMethod := by decide +kernel
set_option maxRecDepth 65536 in
theorem w_hears : about1.hears theMethod below0 = true := by decide +kernel
set_option maxRecDepth 65536 in
theorem w_ripe : about1.ripe theMethod args0 below0 = true := by decide +kernel
theorem w_running : about1.status = .running := rfl
set_option maxRecDepth 65536 in
theorem w_room : about1.hasRoom e0.platform room_1 = true :=
  launch0.hasRoom_least _ room_1 (by decide +kernel) (by decide +kernel) (by decide +kernel) (by decide +kernel) (by decide +kernel) (by decide +kernel)
theorem allAtoms_all (ts : List Jvm.Cond) (a : Array Jvm.Value) (st : Jvm.State) : (allAtoms ts).before a st = ts.all (fun c => c.before a st) := by
  induction ts with
  | nil => rfl
  | cons c t ih =>
    show (Jvm.Cond.and c (allAtoms t)).before a st = _
    rw [Jvm.Cond.before_and, ih, List.all_cons]
def words1 : List Jvm.Cond := Jvm.Cond.code x code maxLocals ret :: tables_1
/-- a 'code' word, met by the world's own term for the bytes: nothing is compared byte by byte -/
theorem code_word {y : MethodName} {bytes : ByteArray} {mx : Nat} {rt : Option FieldType} {a : Array Value} {s : State} {m : MethodId} {meth : Method} {c : Code} (h1 : s.methodNamed? y = some m) (h2 : s.vm.method? m = some meth) (h3 : meth.code = some c) (h4 : c.code = bytes)
    (h5 : (c.maxLocals == mx && c.exceptionTable.isEmpty && decide (c.maxStack ≤ mostOperands) && decide (meth.sig.returnType = rt) && !meth.locks && decide (parseMethodDescriptor y.desc = some meth.sig)) = true) : (Jvm.Cond.code y bytes mx rt).before a s = true := by
  simp only [Bool.and_eq_true, beq_iff_eq, Bool.not_eq_true', decide_eq_true_eq] at h5
  obtain ⟨⟨⟨⟨⟨g1, g2⟩, g3⟩, g4⟩, g5⟩, g6⟩ := h5
  simp [Cond.before, Cond.holds, Cond.value, h1, h2, h3, h4, g1, g2, g3, g4, g5, g6]
def isCode : Jvm.Cond → Bool
  | .code _ _ _ _ => true
  | _ => false
theorem all_split {L : List Jvm.Cond} {P : Jvm.Cond → Bool} (h1 : L.all (fun c => isCode c || P c) = true) (h2 : ∀ c ∈ L.filter isCode, P c = true) : L.all P = true := by
  refine List.all_eq_true.mpr fun c hc => ?_
  have h := List.all_eq_true.mp h1 c hc
  rcases Bool.eq_false_or_eq_true (isCode c) with hi | hi
  · exact h2 c (List.mem_filter.mpr ⟨hc, hi⟩)
  · simpa [hi] using h
set_option maxRecDepth 65536 in
theorem w_c0 : (Jvm.Cond.code x code maxLocals ret).before args0 about1 = true := code_word (m := ⟨1, 1⟩) (meth := k1m1) (c := k1c1) (by decide +kernel) rfl rfl rfl (by decide +kernel)
set_option maxRecDepth 65536 in
theorem w_c1 : (Jvm.Cond.code ({ cls := "com/example/instance_picker/instancepicker/WarmUp", name := "hundredthsAt", desc := "(II)I" } : Jvm.MethodName) prog_48_method_8_code (3 : Nat) (Option.some Jvm.ClassFile.FieldType.int)).before args0 about1 = true := code_word (m := ⟨2, 0⟩) (meth := k2m0) (c := k2c0) (by decide +kernel) rfl rfl rfl (by decide +kernel)
def codes1 : List Jvm.Cond := [Jvm.Cond.code x code maxLocals ret, Jvm.Cond.code ({ cls := "com/example/instance_picker/instancepicker/WarmUp", name := "hundredthsAt", desc := "(II)I" } : Jvm.MethodName) prog_48_method_8_code (3 : Nat) (Option.some Jvm.ClassFile.FieldType.int)]
set_option maxRecDepth 65536 in
theorem codes_eq : words1.filter isCode = codes1 := rfl
theorem w_codes : ∀ c ∈ words1.filter isCode, c.before args0 about1 = true := by
  rw [codes_eq]
  intro c hc
  simp only [codes1, List.mem_cons, List.not_mem_nil, or_false] at hc
  rcases hc with rfl | rfl
  · exact w_c0
  · exact w_c1
set_option maxRecDepth 65536 in
theorem w_t1 : words1.all (fun c => isCode c || c.before args0 about1) = true := by decide +kernel
theorem w_tables : (allAtoms (Jvm.Cond.code x code maxLocals ret :: tables_1)).before args0 about1 = true := by
  rw [allAtoms_all]
  show words1.all (fun c => c.before args0 about1) = true
  refine all_split ?_ w_codes
  rw [w_t1]
set_option maxRecDepth 65536 in
theorem w_case : (Jvm.Cond.and given_1 narrow_1).before args0 about1 = true := by decide +kernel
theorem w_applies : (headSpec (Jvm.Cond.code x code maxLocals ret :: tables_1) room_1).applies x e0.platform about1 = true :=
  (Spec.applies_iff w_frames).mpr ⟨w_running, w_runnable, w_alone, w_named, w_hears, w_ripe, w_room, w_tables⟩
theorem atStart : AtStart classFile x code maxLocals ret World_1 tables_1 room_1 Calls_1 rest_1 Pre_1 launch0 p0 e0 about1 theMethod args0 below0 :=
  ⟨lists_1, trivial, launch0.admits_env _ _ _, launch0.least_env, fairChoices_fair.cas, fairChoices_fair.clock, w_frames, w_args, w_heap, w_applies, trivial, trivial, w_case⟩
end start1
theorem witness_1 : WitnessClaimed_1 := ⟨start1.p0, start1.e0, start1.about1, start1.theMethod, start1.args0, start1.below0, start1.atStart⟩
end Jvm.Pilot.@@N@@
