import JvmDerived
import JvmDerived.Pilot.@@N@@Statement
import JvmDerived.Pilot.@@N@@Code
set_option linter.unusedVariables false
set_option linter.unusedSimpArgs false
@@BLOCK:NumsL.lean.txt@@
namespace Jvm.RoadKit
open Sem ClassFile Op Lib Jvm.Stand Jvm.Free Jvm.LawKit
section New
variable {p : Program} {l : Launch} {e : Env} {R : Room} {s : State} {m : MethodId} {args : Array Value} {below : List Frame} {meth : Method} {c : Code} {T : State} {locs : List Loc} {cells slots : Nat}
theorem retI (X : Stand p l e R s m args below meth c T locs cells slots) (hx : p.tables.exec = Jvm.exec) {pc : Nat} {Ls : Array Slot} {z : Int32} {rest : List Value} (hret : meth.sig.returnType = some .int) (hd : decode c.code pc = .ok (.ireturn, 1)) {fs : List Frame}
    (hl : ∀ (f : JFrame) (acts : List Action), f.method = m → f.locked = none → f.entered = [] → (doReturn e (T.setTop f) acts (some (.int z))).1 = T.setFrames fs) : Steps p.tables e below (T.setTop (mkF m pc Ls (.int z :: rest))) (T.setFrames fs) := by
  have hm' : T.vm.method? m = some meth := X.method'
  have hn : narrow .int (.int z) = .int z := rfl
  show Steps p.tables e below (T.setTop { method := m, pc := pc, locals := Ls, stack := _ :: rest, locked := none }) _
  jvm_step X.here [X.here.top, hx, hd, hm', hret, hn]
  first | (intro acts; rw [hl _ acts rfl rfl rfl]) | rw [hl _ _ rfl rfl rfl]
  exact Steps.refl _
/-- the run from A comes to a return of which F says the value, the heap and the written places -/
def own_Goes (p : Program) (e : Env) (below : List Frame) (s : State) (F : Option Value → Heap → List Loc → Prop) (k n : Nat) (A : State) : Prop :=
  ∃ s₂ o, Steps p.tables e below A s₂ ∧ s₂.status = .running ∧ Ended s₂ below o ∧ ∃ v L, o = .returned v ∧ F v s₂.heap L ∧ FrameEnd s o s₂ L k n
variable {F : Option Value → Heap → List Loc → Prop} {k n : Nat}
theorem own_Goes.step {A B : State} (h : ∀ t, Steps p.tables e below B t → Steps p.tables e below A t) (g : own_Goes p e below s F k n B) : own_Goes p e below s F k n A := by
  obtain ⟨s₂, o, h1, h2⟩ := g
  exact ⟨s₂, o, h _ h1, h2⟩
theorem own_endI (X : Stand p l e R s m args below meth c T locs cells slots) (hx : p.tables.exec = Jvm.exec) (hlk : meth.locks = false) {pc : Nat} {Ls : Array Slot} {z : Int32} {rest : List Value} (hret : meth.sig.returnType = some .int) (hd : decode c.code pc = .ok (.ireturn, 1)) (hF : F (some (.int z)) T.heap locs) (hk : cells ≤ k) (hn : slots ≤ n) :
    own_Goes p e below s F k n (T.setTop (mkF m pc Ls (.int z :: rest))) := by
  obtain ⟨fs, hr, hrun, hended, hW, hsame⟩ := X.leave (v := some (.int z)) (fun h => by rw [hret] at h; cases h) hlk
  exact ⟨_, _, retI X hx hret hd hr, hrun, hended, _, _, rfl, hF, ⟨_, rfl⟩, hW, hsame.mono hk hn⟩
theorem own_endN (X : Stand p l e R s m args below meth c T locs cells slots) (hx : p.tables.exec = Jvm.exec) (hlk : meth.locks = false) {pc : Nat} {Ls : Array Slot} {z : Int32} {t : FieldType} {rest : List Value} (hret : meth.sig.returnType = some t) (ht : t = .boolean ∨ t = .byte ∨ t = .char ∨ t = .short) (hd : decode c.code pc = .ok (.ireturn, 1)) (hF : F (some (.int (nar t z))) T.heap locs) (hk : cells ≤ k) (hn : slots ≤ n) :
    own_Goes p e below s F k n (T.setTop (mkF m pc Ls (.int z :: rest))) := by
  obtain ⟨fs, hr, hrun, hended, hW, hsame⟩ := X.leave (v := some (.int (nar t z))) (fun h => by rw [hret] at h; cases h) hlk
  exact ⟨_, _, retN X hx hret ht hd hr, hrun, hended, _, _, rfl, hF, ⟨_, rfl⟩, hW, hsame.mono hk hn⟩
theorem own_endJ (X : Stand p l e R s m args below meth c T locs cells slots) (hx : p.tables.exec = Jvm.exec) (hlk : meth.locks = false) {pc : Nat} {Ls : Array Slot} {z : Int64} (hret : meth.sig.returnType = some .long) (hd : decode c.code pc = .ok (.lreturn, 1)) (hF : F (some (.long z)) T.heap locs) (hk : cells ≤ k) (hn : slots ≤ n) :
    own_Goes p e below s F k n (T.setTop (mkF m pc Ls [.long z])) := by
  obtain ⟨fs, hr, hrun, hended, hW, hsame⟩ := X.leave (v := some (.long z)) (fun h => by rw [hret] at h; cases h) hlk
  exact ⟨_, _, X.lreturnOut hx hret hd hr, hrun, hended, _, _, rfl, hF, ⟨_, rfl⟩, hW, hsame.mono hk hn⟩
theorem own_endV (X : Stand p l e R s m args below meth c T locs cells slots) (hx : p.tables.exec = Jvm.exec) (hlk : meth.locks = false) {pc : Nat} {Ls : Array Slot} (hret : meth.sig.returnType = none) (hd : decode c.code pc = .ok (.return_, 1)) (hF : F none T.heap locs) (hk : cells ≤ k) (hn : slots ≤ n) :
    own_Goes p e below s F k n (T.setTop (mkF m pc Ls [])) := by
  obtain ⟨fs, hr, hrun, hended, hW, hsame⟩ := X.leave (v := none) (fun _ => rfl) hlk
  exact ⟨_, _, X.returnOut hx hret hd hr, hrun, hended, _, _, rfl, hF, ⟨_, rfl⟩, hW, hsame.mono hk hn⟩
theorem own_endA (X : Stand p l e R s m args below meth c T locs cells slots) (hx : p.tables.exec = Jvm.exec) (hlk : meth.locks = false) {pc : Nat} {Ls : Array Slot} {w : Value} {t : FieldType} (hw : w.isRef = true) (hret : meth.sig.returnType = some t) (ht : t.isReference = true) (hd : decode c.code pc = .ok (.areturn, 1)) (hF : F (some w) T.heap locs) (hk : cells ≤ k) (hn : slots ≤ n) :
    own_Goes p e below s F k n (T.setTop (mkF m pc Ls [w])) := by
  obtain ⟨fs, hr, hrun, hended, hW, hsame⟩ := X.leave (v := some w) (fun h => by rw [hret] at h; cases h) hlk
  exact ⟨_, _, X.areturnOut hx hw hret ht hd hr, hrun, hended, _, _, rfl, hF, ⟨_, rfl⟩, hW, hsame.mono hk hn⟩
theorem own_lrem (x y : Int64) : x - x / y * y = x % y := by
  refine Int64.toInt_inj.mp ?_
  rw [Jvm.Kit.i64_rem, Int64.toInt_mod]
theorem own_lremM {g : JFrame} {target : State} (X : Stand p l e R s m args below meth c T locs cells slots) (hx : p.tables.exec = Jvm.exec) (hg : g.method = m) {x y : Int64} {rest : List Value} (hd : decode c.code g.pc = .ok (.lrem, 1)) (hs : g.stack = .long y :: .long x :: rest) (hy : y ≠ 0)
    (hr : Steps p.tables e below (T.setTop { g with pc := g.pc + 1, stack := .long (x % y) :: rest }) target) : Steps p.tables e below (T.setTop g) target :=
  XT.lrem X.here hx hg hd hs hy (by rw [own_lrem]; exact hr)
/-- the three calls, by a contract in this family, carried forward -/
theorem own_stat {Z : State} {a0 : Array Value} {h : Heap} (X : Stand p l e R s m args below meth c T locs cells slots) (hx : p.tables.exec = Jvm.exec) (hZ : Z.Warmed39 s.vm) (eT : T.heap = h) {own : String} {index : Nat} {y : MethodName} {bytes : ByteArray} {maxL : Nat} {ret : Option FieldType} {rm : Room} {W : Nat} {argsL rest : List Value} {Q : Option Value → Heap → List Loc → Prop}
    (hown : s.vm.findClass own = some m.cls) (wl : (Cond.methodLink own index y).before a0 Z = true) (wst : (Cond.static y).before a0 Z = true) (wi : (Cond.initialized y.cls).before a0 Z = true) (wc : (Cond.code y bytes maxL ret).before a0 Z = true) (hy : y.cls ≠ "java/lang/invoke/MethodHandle" ∧ y.cls ≠ "java/lang/invoke/VarHandle")
    (hM : MetFree l y (head1 [Cond.code y bytes maxL ret] rm) (fun a U => a = argsL.toArray ∧ Z.Warmed39 U.vm ∧ U.heap = h) (fun _ _ _ _ _ => True) (fun _ U o U' => ∃ w L, o = .returned w ∧ Q w U'.heap L ∧ FrameEnd U o U' L rm.cells rm.slots))
    (hf : rm.frames + 1 ≤ R.frames) (hl : W + (maxL + 11) + rm.locals ≤ R.locals) (hcells : cells + rm.cells ≤ R.cells) (hslots : slots + rm.slots ≤ R.slots)
    {g : JFrame} (hg : g.method = m) (hsize : g.locals.size = c.maxLocals) (hlen : ∀ sig, parseMethodDescriptor y.desc = some sig → argsL.length = sig.parameters.length) (hstack : g.stack = argsL.reverse ++ rest) (hW : 2 * g.monitorRoom + (rest.map fun v => v.category).sum ≤ W) (hdg : decode c.code g.pc = .ok (.invokestatic index, 3)) :
    ∃ w T' L, Q w T'.heap L ∧ Stand p l e R s m args below meth c T' (locs ++ L) (cells + rm.cells) (slots + rm.slots) ∧ ∀ t, Steps p.tables e below (T'.setTop { g with pc := g.pc + 3, stack := w.toList ++ rest }) t → Steps p.tables e below (T.setTop g) t := by
  have hB := backOf (R := R) (p := p) (e := e) (below := below) (args := args) (len := 3) (W := W) (Q := Q) hM hZ wc wi hf hl
  obtain ⟨w, vm₁, ⟨U, Lc, k1, n1⟩, -, X', ⟨L, hQ, hL, hC, hS⟩, st⟩ := Jvm.LawKit.callS X hx (y := y) hown (mvT hZ wl) (mvT hZ wst) (mvT hZ wi) (mvT hZ wc) hy hB (g := g) hg hsize hlen hstack hW hdg (fun _ _ => ⟨rfl, eT, hcells, hslots⟩)
  dsimp only [Pt.U, Pt.locs, Pt.cells, Pt.slots] at X' hQ hL hC hS st
  subst hL hC hS
  exact ⟨w, U, L, hQ, X', st⟩
theorem own_spec {Z : State} {a0 : Array Value} {h : Heap} (X : Stand p l e R s m args below meth c T locs cells slots) (hx : p.tables.exec = Jvm.exec) (hZ : Z.Warmed39 s.vm) (eT : T.heap = h) {own : String} {index : Nat} {y : MethodName} {bytes : ByteArray} {maxL : Nat} {rm : Room} {W : Nat} {a : Addr} {argsL rest : List Value} {Q : Option Value → Heap → List Loc → Prop}
    (hy1 : y.name = "<init>") (hown : s.vm.findClass own = some m.cls) (wl : (Cond.methodLink own index y).before a0 Z = true) (wst : (Cond.instanceMethod y).before a0 Z = true) (wi : (Cond.initialized y.cls).before a0 Z = true) (wc : (Cond.code y bytes maxL none).before a0 Z = true) (hy : y.cls ≠ "java/lang/invoke/MethodHandle" ∧ y.cls ≠ "java/lang/invoke/VarHandle")
    (hM : MetFree l y (head1 [Cond.code y bytes maxL none] rm) (fun b U => b = (.ref a :: argsL).toArray ∧ Z.Warmed39 U.vm ∧ U.heap = h) (fun _ _ _ _ _ => True) (fun _ U o U' => ∃ w L, o = .returned w ∧ Q w U'.heap L ∧ FrameEnd U o U' L rm.cells rm.slots))
    (hf : rm.frames + 1 ≤ R.frames) (hl : W + (maxL + 11) + rm.locals ≤ R.locals) (hcells : cells + rm.cells ≤ R.cells) (hslots : slots + rm.slots ≤ R.slots)
    {g : JFrame} (hg : g.method = m) (hsize : g.locals.size = c.maxLocals) (hlen : ∀ sig, parseMethodDescriptor y.desc = some sig → argsL.length = sig.parameters.length) (hstack : g.stack = argsL.reverse ++ .ref a :: rest) (hW : 2 * g.monitorRoom + (rest.map fun v => v.category).sum ≤ W) (hdg : decode c.code g.pc = .ok (.invokespecial index, 3)) :
    ∃ w T' L, Q w T'.heap L ∧ Stand p l e R s m args below meth c T' (locs ++ L) (cells + rm.cells) (slots + rm.slots) ∧ ∀ t, Steps p.tables e below (T'.setTop { g with pc := g.pc + 3, stack := w.toList ++ rest }) t → Steps p.tables e below (T.setTop g) t := by
  have hB := backOf (R := R) (p := p) (e := e) (below := below) (args := args) (len := 3) (W := W) (Q := Q) hM hZ wc wi hf hl
  obtain ⟨w, vm₁, ⟨U, Lc, k1, n1⟩, -, X', ⟨L, hQ, hL, hC, hS⟩, st⟩ := X.specialBack hx (y := y) hy1 hown (mvT hZ wl) (mvT hZ wst) (mvT hZ wc) hy hB (g := g) hg hsize (Steps.refl _) (a := a) hlen hstack hW hdg (fun _ _ => ⟨rfl, eT, hcells, hslots⟩)
  dsimp only [Pt.U, Pt.locs, Pt.cells, Pt.slots] at X' hQ hL hC hS st
  subst hL hC hS
  exact ⟨w, U, L, hQ, X', fun t k => st.trans k⟩
theorem own_virt {Z : State} {a0 : Array Value} {h : Heap} (X : Stand p l e R s m args below meth c T locs cells slots) (hx : p.tables.exec = Jvm.exec) (hZ : Z.Warmed39 s.vm) (eT : T.heap = h) {own C : String} {index : Nat} {y : MethodName} {bytes : ByteArray} {maxL : Nat} {ret : Option FieldType} {rm : Room} {W : Nat} {a : Addr} {argsL rest : List Value} {Q : Option Value → Heap → List Loc → Prop}
    (E : Exa Z h a C) (hown : s.vm.findClass own = some m.cls) (wl : (Cond.methodLink own index y).before a0 Z = true) (wd : (Cond.declares y).before a0 Z = true) (ws : (Cond.selects C y y).before a0 Z = true) (wst : (Cond.instanceMethod y).before a0 Z = true) (wi : (Cond.initialized y.cls).before a0 Z = true) (wc : (Cond.code y bytes maxL ret).before a0 Z = true) (hy : y.cls ≠ "java/lang/invoke/MethodHandle" ∧ y.cls ≠ "java/lang/invoke/VarHandle")
    (hM : MetFree l y (head1 [Cond.code y bytes maxL ret] rm) (fun b U => b = (.ref a :: argsL).toArray ∧ Z.Warmed39 U.vm ∧ U.heap = h) (fun _ _ _ _ _ => True) (fun _ U o U' => ∃ w L, o = .returned w ∧ Q w U'.heap L ∧ FrameEnd U o U' L rm.cells rm.slots))
    (hf : rm.frames + 1 ≤ R.frames) (hl : W + (maxL + 11) + rm.locals ≤ R.locals) (hcells : cells + rm.cells ≤ R.cells) (hslots : slots + rm.slots ≤ R.slots)
    {g : JFrame} (hg : g.method = m) (hsize : g.locals.size = c.maxLocals) (hlen : ∀ sig, parseMethodDescriptor y.desc = some sig → argsL.length = sig.parameters.length) (hstack : g.stack = argsL.reverse ++ .ref a :: rest) (hW : 2 * g.monitorRoom + (rest.map fun v => v.category).sum ≤ W) (hdg : decode c.code g.pc = .ok (.invokevirtual index, 3)) :
    ∃ w T' L, Q w T'.heap L ∧ Stand p l e R s m args below meth c T' (locs ++ L) (cells + rm.cells) (slots + rm.slots) ∧ ∀ t, Steps p.tables e below (T'.setTop { g with pc := g.pc + 3, stack := w.toList ++ rest }) t → Steps p.tables e below (T.setTop g) t := by
  have hB := backOf (R := R) (p := p) (e := e) (below := below) (args := args) (len := 3) (W := W) (Q := Q) hM hZ wc wi hf hl
  obtain ⟨cq, kq, qa, qb, qc⟩ := isOf hZ eT E
  obtain ⟨w, vm₁, ⟨U, Lc, k1, n1⟩, -, X', ⟨L, hQ, hL, hC, hS⟩, st⟩ := X.virtualBack hx (y := y) (z := y) hown (mvT hZ wl) (mvT hZ wd) (notFace_of_selects (args := #[]) (mvT hZ ws)) (mvT hZ ws) (mvT hZ wst) hy hB qa qc (g := g) hg hsize (Steps.refl _) hlen hstack hW hdg (fun _ _ => ⟨rfl, eT, hcells, hslots⟩)
  dsimp only [Pt.U, Pt.locs, Pt.cells, Pt.slots] at X' hQ hL hC hS st
  subst hL hC hS
  exact ⟨w, U, L, hQ, X', fun t k => st.trans k⟩
/-- a call that left nothing behind -/
theorem own_clean {h : Heap} {w v : Option Value} {T' : State} {L : List Loc} {k0 n0 : Nat} (q : w = v ∧ L = [] ∧ T'.heap = h) (X : Stand p l e R s m args below meth c T' (locs ++ L) (cells + k0) (slots + n0)) (hk : k0 = 0) (hn : n0 = 0) : T'.heap = h ∧ Stand p l e R s m args below meth c T' locs cells slots := by
  obtain ⟨-, rfl, hh⟩ := q
  subst hk hn
  rw [List.append_nil] at X
  exact ⟨hh, X⟩
theorem own_nin {a b : Addr} (q : b ≠ a) : b ∉ [a] := fun h => q (List.mem_singleton.mp h)
theorem own_kt {h0 : Heap} {ws : List Addr} {a : Addr} (q : a ∈ ws ∨ h0.size ≤ a) : ∀ x ∈ [a], x ∈ ws ∨ h0.size ≤ x := fun x hx => by
  cases List.mem_singleton.mp hx; exact q
end New
end Jvm.RoadKit
namespace Jvm.Pilot.@@N@@
open Jvm Jvm.ClassFile Sem Op Lib Jvm.Free Jvm.Stand Jvm.LawKit Jvm.RoadKit Bundle Jvm.Pilot.@@N@@.Jvm.D
/-! plain facts on ints and longs -/
theorem own_char16 (u : UInt16) : (u.toUInt32.toInt32).toInt = u.toNat := by
  have h := u.toNat_lt
  show BitVec.toInt u.toUInt32.toBitVec = _
  rw [BitVec.toInt_eq_toNat_of_lt (by simp; omega)]
  simp
theorem own_char (y : Int32) : 0 ≤ (y.toUInt32.toUInt16.toUInt32.toInt32).toInt ∧ (y.toUInt32.toUInt16.toUInt32.toInt32).toInt < 65536 := by
  rw [own_char16]
  have h := y.toUInt32.toUInt16.toNat_lt
  omega
theorem own_fin32 {P : Int32 → Prop} (n : Nat) (h : ∀ k : Fin n, P (Int32.ofNat k)) (c : Int32) (h0 : 0 ≤ c.toInt) (h1 : c.toInt < n) : P c := by
  have e : c = Int32.ofNat c.toInt.toNat := by
    apply Int32.toInt_inj.mp
    have hb := c.toInt_lt
    rw [Int32.toInt_ofNat_of_lt (by omega)]
    omega
  rw [e]
  exact h ⟨c.toInt.toNat, by omega⟩
theorem own_lt32 (x y : Int32) : (x < y) ↔ x.toInt < y.toInt := Int32.lt_iff_toInt_lt
theorem own_eq32 (x y : Int32) : (x = y) ↔ x.toInt = y.toInt := Int32.toInt_inj.symm
theorem own_lt64 (x y : Int64) : (x < y) ↔ x.toInt < y.toInt := Int64.lt_iff_toInt_lt
theorem own_eq64 (x y : Int64) : (x = y) ↔ x.toInt = y.toInt := Int64.toInt_inj.symm
theorem d4_0 : decode prog_25_method_21_code 0 = .ok (.iload_n 1, 1) := by decide +kernel
theorem d4_1 : decode prog_25_method_21_code 1 = .ok (.aload_n 0, 1) := by decide +kernel
theorem d4_2 : decode prog_25_method_21_code 2 = .ok (.getfield 35, 3) := by decide +kernel
theorem d4_5 : decode prog_25_method_21_code 5 = .ok (.if_icmp .ne 15, 3) := by decide +kernel
theorem d4_8 : decode prog_25_method_21_code 8 = .ok (.iload_n 2, 1) := by decide +kernel
theorem d4_9 : decode prog_25_method_21_code 9 = .ok (.aload_n 0, 1) := by decide +kernel
theorem d4_10 : decode prog_25_method_21_code 10 = .ok (.getfield 38, 3) := by decide +kernel
theorem d4_13 : decode prog_25_method_21_code 13 = .ok (.if_icmp .ne 7, 3) := by decide +kernel
theorem d4_16 : decode prog_25_method_21_code 16 = .ok (.iconst 1, 1) := by decide +kernel
theorem d4_17 : decode prog_25_method_21_code 17 = .ok (.goto 4, 3) := by decide +kernel
theorem d4_20 : decode prog_25_method_21_code 20 = .ok (.iconst 0, 1) := by decide +kernel
theorem d4_21 : decode prog_25_method_21_code 21 = .ok (.ireturn, 1) := by decide +kernel
theorem pn_4 : plainName "com/example/keystead/keystead/Geometry" = true := by first | (simp [plainName, overriddenIn]; done) | decide +kernel
theorem pd_4 : parseMethodDescriptor "(II)Z" = some ⟨[.int, .int], (some .boolean)⟩ := by decide +kernel
theorem ef_4 (m : MethodId) (x0 : Addr) (x1 : Int32) (x2 : Int32) : entryFrame m #[(.ref x0), (.int x1), (.int x2)] 3 = mkF m 0 #[.val (.ref x0), .val (.int x1), .val (.int x2)] [] := by first | (simp [entryFrame, mkF, argsToLocals, Value.category]; done) | rfl
def own_f4 (x1 : Int32) (x2 : Int32) (vk : Int32) (vv : Int32) : Int32 := (if x1 = vk then (if x2 = vv then (1 : Int32) else (0 : Int32)) else (0 : Int32))
def own_F4 (Z : State) (x0 : Addr) (x1 : Int32) (x2 : Int32) (vk : Int32) (vv : Int32) (h0 : Heap) (v : Option Value) (h : Heap) (L : List Loc) : Prop := v = some (.int (own_f4 x1 x2 vk vv)) ∧ L = [] ∧ h = h0
set_option maxRecDepth 65536 in
set_option maxHeartbeats 40000000 in
theorem own_m4 (l : Launch) (Z : State) (a0 : Array Value) (hw : ∀ d ∈ tables_1, d.before a0 Z = true) (ws : List Jvm.Cond) (x0 : Addr) (x1 : Int32) (x2 : Int32) (vk : Int32) (vv : Int32) (h0 : Heap) (P0 : Fld Z h0 x0 "com/example/keystead/keystead/Geometry" "defaultKeySize" "I" (.int vk)) (P1 : Fld Z h0 x0 "com/example/keystead/keystead/Geometry" "defaultValueSize" "I" (.int vv))  :
    MetFree l (⟨"com/example/keystead/keystead/Geometry", "isDefault", "(II)Z"⟩ : MethodName) (head1 (Jvm.Cond.code (⟨"com/example/keystead/keystead/Geometry", "isDefault", "(II)Z"⟩ : MethodName) prog_25_method_21_code 3 (some .boolean) :: ws) ({ frames := 0, cells := 0, slots := 0, locals := 0 } : Room)) (fun a U => a = #[(.ref x0), (.int x1), (.int x2)] ∧ Z.Warmed39 U.vm ∧ U.heap = h0) (fun _ _ _ _ _ => True) (fun _ U o U' => ∃ v L, o = .returned v ∧ own_F4 Z x0 x1 x2 vk vv h0 v U'.heap L ∧ FrameEnd U o U' L ({ frames := 0, cells := 0, slots := 0, locals := 0 } : Room).cells ({ frames := 0, cells := 0, slots := 0, locals := 0 } : Room).slots) := by
  refine MetFree.of_bodySF (plainFor_of_name pn_4) hisR ?_
  intro p e s m args below meth c s₁ Bd hml0 hP hK
  obtain ⟨rfl, hZ, hh⟩ := hP
  have hx := Bd.exec
  have hby := Bd.bytes
  have hml : c.maxLocals = 3 := hml0
  have hown : s.vm.findClass "com/example/keystead/keystead/Geometry" = some m.cls := findClass_of_methodNamed Bd.named
  have hnm := (name_of_methodNamed Bd.named Bd.method).1
  have X0 : Stand p l e ({ frames := 0, cells := 0, slots := 0, locals := 0 } : Room) s m #[(.ref x0), (.int x1), (.int x2)] below meth c s₁ [] 0 0 := Stand.of_body Bd
  have e0 : s₁.heap = h0 := by rw [← hh, Bd.state]; rfl
  have hgo : own_Goes p e below s (own_F4 Z x0 x1 x2 vk vv h0) 0 0 (s₁.setTop (mkF m 0 #[.val (.ref x0), .val (.int x1), .val (.int x2)] [])) := by
    refine own_Goes.step (fun t k => XS.iloadN X0.here hx rfl (hb hby d4_0) rfl k) ?_
    show own_Goes p e below s (own_F4 Z x0 x1 x2 vk vv h0) 0 0 (s₁.setTop (mkF m 1 #[.val (.ref x0), .val (.int x1), .val (.int x2)] [(.int x1)]))
    refine own_Goes.step (fun t k => XS.aloadN X0.here hx rfl (hb hby d4_1) rfl rfl k) ?_
    show own_Goes p e below s (own_F4 Z x0 x1 x2 vk vv h0) 0 0 (s₁.setTop (mkF m 2 #[.val (.ref x0), .val (.int x1), .val (.int x2)] [(.ref x0), (.int x1)]))
    obtain ⟨T1, X1, e1, st1⟩ := getF X0 hx hZ hown (host := "") (Or.inl (hw _ (List.mem_of_getElem? (i := 28) rfl))) Via.refl e0 P0 (g := (mkF m 2 #[.val (.ref x0), .val (.int x1), .val (.int x2)] [(.ref x0), (.int x1)])) rfl rfl (hb hby d4_2)
    refine own_Goes.step st1 ?_
    show own_Goes p e below s (own_F4 Z x0 x1 x2 vk vv h0) 0 0 (T1.setTop (mkF m 5 #[.val (.ref x0), .val (.int x1), .val (.int x2)] [(.int vk), (.int x1)]))
    by_cases hc2 : x1 = vk
    · refine own_Goes.step (fun t k => XS.icmpNo X1.here hx rfl (hb hby d4_5) rfl (XT.ii_ne_f hc2) k) ?_
      show own_Goes p e below s (own_F4 Z x0 x1 x2 vk vv h0) 0 0 (T1.setTop (mkF m 8 #[.val (.ref x0), .val (.int x1), .val (.int x2)] []))
      refine own_Goes.step (fun t k => XS.iloadN X1.here hx rfl (hb hby d4_8) rfl k) ?_
      show own_Goes p e below s (own_F4 Z x0 x1 x2 vk vv h0) 0 0 (T1.setTop (mkF m 9 #[.val (.ref x0), .val (.int x1), .val (.int x2)] [(.int x2)]))
      refine own_Goes.step (fun t k => XS.aloadN X1.here hx rfl (hb hby d4_9) rfl rfl k) ?_
      show own_Goes p e below s (own_F4 Z x0 x1 x2 vk vv h0) 0 0 (T1.setTop (mkF m 10 #[.val (.ref x0), .val (.int x1), .val (.int x2)] [(.ref x0), (.int x2)]))
      obtain ⟨T3, X3, e3, st3⟩ := getF X1 hx hZ hown (host := "") (Or.inl (hw _ (List.mem_of_getElem? (i := 30) rfl))) Via.refl e1 P1 (g := (mkF m 10 #[.val (.ref x0), .val (.int x1), .val (.int x2)] [(.ref x0), (.int x2)])) rfl rfl (hb hby d4_10)
      refine own_Goes.step st3 ?_
      show own_Goes p e below s (own_F4 Z x0 x1 x2 vk vv h0) 0 0 (T3.setTop (mkF m 13 #[.val (.ref x0), .val (.int x1), .val (.int x2)] [(.int vv), (.int x2)]))
      by_cases hc4 : x2 = vv
      · refine own_Goes.step (fun t k => XS.icmpNo X3.here hx rfl (hb hby d4_13) rfl (XT.ii_ne_f hc4) k) ?_
        show own_Goes p e below s (own_F4 Z x0 x1 x2 vk vv h0) 0 0 (T3.setTop (mkF m 16 #[.val (.ref x0), .val (.int x1), .val (.int x2)] []))
        refine own_Goes.step (fun t k => XT.iconstV X3.here hx rfl (1 : Int32) (hb hby d4_16) (by decide) k) ?_
        show own_Goes p e below s (own_F4 Z x0 x1 x2 vk vv h0) 0 0 (T3.setTop (mkF m 17 #[.val (.ref x0), .val (.int x1), .val (.int x2)] [(.int (1 : Int32))]))
        refine own_Goes.step (fun t k => XS.goto X3.here hx rfl (pc0 := 17) (pc' := 21) rfl (hb hby d4_17) (by decide) (by decide) k) ?_
        show own_Goes p e below s (own_F4 Z x0 x1 x2 vk vv h0) 0 0 (T3.setTop (mkF m 21 #[.val (.ref x0), .val (.int x1), .val (.int x2)] [(.int (1 : Int32))]))
        exact own_endN X3 hx Bd.notSynchronized (t := .boolean) Bd.returns (by simp) (hb hby d4_21) ⟨(congrArg (fun z => some (Value.int z)) (show (1 : Int32) = own_f4 x1 x2 vk vv from by simp only [own_f4, if_pos hc2, if_pos hc4])), rfl, e3⟩ (by decide) (by decide)
      · refine own_Goes.step (fun t k => XS.icmpYes X3.here hx rfl (pc0 := 13) (pc' := 20) rfl (hb hby d4_13) rfl (XT.ii_ne_t hc4) (by decide) (by decide) k) ?_
        show own_Goes p e below s (own_F4 Z x0 x1 x2 vk vv h0) 0 0 (T3.setTop (mkF m 20 #[.val (.ref x0), .val (.int x1), .val (.int x2)] []))
        refine own_Goes.step (fun t k => XT.iconstV X3.here hx rfl (0 : Int32) (hb hby d4_20) (by decide) k) ?_
        show own_Goes p e below s (own_F4 Z x0 x1 x2 vk vv h0) 0 0 (T3.setTop (mkF m 21 #[.val (.ref x0), .val (.int x1), .val (.int x2)] [(.int (0 : Int32))]))
        exact own_endN X3 hx Bd.notSynchronized (t := .boolean) Bd.returns (by simp) (hb hby d4_21) ⟨(congrArg (fun z => some (Value.int z)) (show (0 : Int32) = own_f4 x1 x2 vk vv from by simp only [own_f4, if_pos hc2, if_neg hc4])), rfl, e3⟩ (by decide) (by decide)
    · refine own_Goes.step (fun t k => XS.icmpYes X1.here hx rfl (pc0 := 5) (pc' := 20) rfl (hb hby d4_5) rfl (XT.ii_ne_t hc2) (by decide) (by decide) k) ?_
      show own_Goes p e below s (own_F4 Z x0 x1 x2 vk vv h0) 0 0 (T1.setTop (mkF m 20 #[.val (.ref x0), .val (.int x1), .val (.int x2)] []))
      refine own_Goes.step (fun t k => XT.iconstV X1.here hx rfl (0 : Int32) (hb hby d4_20) (by decide) k) ?_
      show own_Goes p e below s (own_F4 Z x0 x1 x2 vk vv h0) 0 0 (T1.setTop (mkF m 21 #[.val (.ref x0), .val (.int x1), .val (.int x2)] [(.int (0 : Int32))]))
      exact own_endN X1 hx Bd.notSynchronized (t := .boolean) Bd.returns (by simp) (hb hby d4_21) ⟨(congrArg (fun z => some (Value.int z)) (show (0 : Int32) = own_f4 x1 x2 vk vv from by simp only [own_f4, if_neg hc2])), rfl, e1⟩ (by decide) (by decide)
  obtain ⟨t2, o2, q1, q2, q3, q4⟩ := hgo
  exact ⟨t2, o2, castTop (ef_4 m x0 x1 x2) q1, q2, q3, q4⟩
theorem d2_0 : decode jdk_30_method_1_code 0 = .ok (.aload_n 0, 1) := by decide +kernel
theorem d2_1 : decode jdk_30_method_1_code 1 = .ok (.invokespecial 1, 3) := by decide +kernel
theorem d2_4 : decode jdk_30_method_1_code 4 = .ok (.return_, 1) := by decide +kernel
theorem pn_2 : plainName "java/lang/Record" = true := by first | (simp [plainName, overriddenIn]; done) | decide +kernel
theorem pd_2 : parseMethodDescriptor "()V" = some ⟨[], none⟩ := by decide +kernel
theorem ef_2 (m : MethodId) (x0 : Addr) : entryFrame m #[(.ref x0)] 1 = mkF m 0 #[.val (.ref x0)] [] := by first | (simp [entryFrame, mkF, argsToLocals, Value.category]; done) | rfl
def own_F2 (Z : State) (x0 : Addr)  (h0 : Heap) (v : Option Value) (h : Heap) (L : List Loc) : Prop := v = none ∧ L = [] ∧ h = h0
set_option maxRecDepth 65536 in
set_option maxHeartbeats 40000000 in
theorem own_m2 (l : Launch) (Z : State) (a0 : Array Value) (hw : ∀ d ∈ tables_1, d.before a0 Z = true) (ws : List Jvm.Cond) (x0 : Addr)  (h0 : Heap)   :
    MetFree l (⟨"java/lang/Record", "<init>", "()V"⟩ : MethodName) (head1 (Jvm.Cond.code (⟨"java/lang/Record", "<init>", "()V"⟩ : MethodName) jdk_30_method_1_code 1 none :: ws) ({ frames := 1, cells := 0, slots := 0, locals := 12 } : Room)) (fun a U => a = #[(.ref x0)] ∧ Z.Warmed39 U.vm ∧ U.heap = h0) (fun _ _ _ _ _ => True) (fun _ U o U' => ∃ v L, o = .returned v ∧ own_F2 Z x0 h0 v U'.heap L ∧ FrameEnd U o U' L ({ frames := 1, cells := 0, slots := 0, locals := 12 } : Room).cells ({ frames := 1, cells := 0, slots := 0, locals := 12 } : Room).slots) := by
  refine MetFree.of_bodySF (plainFor_of_name pn_2) hisR ?_
  intro p e s m args below meth c s₁ Bd hml0 hP hK
  obtain ⟨rfl, hZ, hh⟩ := hP
  have hx := Bd.exec
  have hby := Bd.bytes
  have hml : c.maxLocals = 1 := hml0
  have hown : s.vm.findClass "java/lang/Record" = some m.cls := findClass_of_methodNamed Bd.named
  have hnm := (name_of_methodNamed Bd.named Bd.method).1
  have X0 : Stand p l e ({ frames := 1, cells := 0, slots := 0, locals := 12 } : Room) s m #[(.ref x0)] below meth c s₁ [] 0 0 := Stand.of_body Bd
  have e0 : s₁.heap = h0 := by rw [← hh, Bd.state]; rfl
  have hgo : own_Goes p e below s (own_F2 Z x0 h0) 0 0 (s₁.setTop (mkF m 0 #[.val (.ref x0)] [])) := by
    refine own_Goes.step (fun t k => XS.aloadN X0.here hx rfl (hb hby d2_0) rfl rfl k) ?_
    show own_Goes p e below s (own_F2 Z x0 h0) 0 0 (s₁.setTop (mkF m 1 #[.val (.ref x0)] [(.ref x0)]))
    obtain ⟨T1, X1, e1, st1⟩ := initO X0 hx hZ hown (hw _ (List.mem_of_getElem? (i := 11) rfl)) (hw _ (List.mem_of_getElem? (i := 12) rfl)) (hw _ (List.mem_of_getElem? (i := 13) rfl)) e0 (g := (mkF m 1 #[.val (.ref x0)] [(.ref x0)])) rfl (by rw [hml]; rfl) rfl (hb hby d2_1) (by decide) (W := 0) (by show 2 * 0 + _ ≤ _; exact Nat.le_of_eq rfl) (by decide)
    refine own_Goes.step st1 ?_
    show own_Goes p e below s (own_F2 Z x0 h0) 0 0 (T1.setTop (mkF m 4 #[.val (.ref x0)] []))
    exact own_endV X1 hx Bd.notSynchronized Bd.returns (hb hby d2_4) ⟨rfl, rfl, e1⟩ (by decide) (by decide)
  obtain ⟨t2, o2, q1, q2, q3, q4⟩ := hgo
  exact ⟨t2, o2, castTop (ef_2 m x0) q1, q2, q3, q4⟩
theorem d1_0 : decode prog_25_method_3_code 0 = .ok (.aload_n 0, 1) := by decide +kernel
theorem d1_1 : decode prog_25_method_3_code 1 = .ok (.invokespecial 7, 3) := by decide +kernel
theorem d1_4 : decode prog_25_method_3_code 4 = .ok (.aload_n 0, 1) := by decide +kernel
theorem d1_5 : decode prog_25_method_3_code 5 = .ok (.iload_n 1, 1) := by decide +kernel
theorem d1_6 : decode prog_25_method_3_code 6 = .ok (.putfield 13, 3) := by decide +kernel
theorem d1_9 : decode prog_25_method_3_code 9 = .ok (.aload_n 0, 1) := by decide +kernel
theorem d1_10 : decode prog_25_method_3_code 10 = .ok (.iload_n 2, 1) := by decide +kernel
theorem d1_11 : decode prog_25_method_3_code 11 = .ok (.putfield 17, 3) := by decide +kernel
theorem d1_14 : decode prog_25_method_3_code 14 = .ok (.aload_n 0, 1) := by decide +kernel
theorem d1_15 : decode prog_25_method_3_code 15 = .ok (.iload_n 3, 1) := by decide +kernel
theorem d1_16 : decode prog_25_method_3_code 16 = .ok (.putfield 20, 3) := by decide +kernel
theorem d1_19 : decode prog_25_method_3_code 19 = .ok (.aload_n 0, 1) := by decide +kernel
theorem d1_20 : decode prog_25_method_3_code 20 = .ok (.iload 4, 2) := by decide +kernel
theorem d1_22 : decode prog_25_method_3_code 22 = .ok (.putfield 23, 3) := by decide +kernel
theorem d1_25 : decode prog_25_method_3_code 25 = .ok (.aload_n 0, 1) := by decide +kernel
theorem d1_26 : decode prog_25_method_3_code 26 = .ok (.iload 5, 2) := by decide +kernel
theorem d1_28 : decode prog_25_method_3_code 28 = .ok (.putfield 26, 3) := by decide +kernel
theorem d1_31 : decode prog_25_method_3_code 31 = .ok (.aload_n 0, 1) := by decide +kernel
theorem d1_32 : decode prog_25_method_3_code 32 = .ok (.iload 6, 2) := by decide +kernel
theorem d1_34 : decode prog_25_method_3_code 34 = .ok (.putfield 29, 3) := by decide +kernel
theorem d1_37 : decode prog_25_method_3_code 37 = .ok (.aload_n 0, 1) := by decide +kernel
theorem d1_38 : decode prog_25_method_3_code 38 = .ok (.iload 7, 2) := by decide +kernel
theorem d1_40 : decode prog_25_method_3_code 40 = .ok (.putfield 32, 3) := by decide +kernel
theorem d1_43 : decode prog_25_method_3_code 43 = .ok (.aload_n 0, 1) := by decide +kernel
theorem d1_44 : decode prog_25_method_3_code 44 = .ok (.iload 8, 2) := by decide +kernel
theorem d1_46 : decode prog_25_method_3_code 46 = .ok (.putfield 35, 3) := by decide +kernel
theorem d1_49 : decode prog_25_method_3_code 49 = .ok (.aload_n 0, 1) := by decide +kernel
theorem d1_50 : decode prog_25_method_3_code 50 = .ok (.iload 9, 2) := by decide +kernel
theorem d1_52 : decode prog_25_method_3_code 52 = .ok (.putfield 38, 3) := by decide +kernel
theorem d1_55 : decode prog_25_method_3_code 55 = .ok (.aload_n 0, 1) := by decide +kernel
theorem d1_56 : decode prog_25_method_3_code 56 = .ok (.iload 10, 2) := by decide +kernel
theorem d1_58 : decode prog_25_method_3_code 58 = .ok (.putfield 41, 3) := by decide +kernel
theorem d1_61 : decode prog_25_method_3_code 61 = .ok (.return_, 1) := by decide +kernel
theorem pn_1 : plainName "com/example/keystead/keystead/Geometry" = true := by first | (simp [plainName, overriddenIn]; done) | decide +kernel
theorem pd_1 : parseMethodDescriptor "(IIIIIIIIII)V" = some ⟨[.int, .int, .int, .int, .int, .int, .int, .int, .int, .int], none⟩ := by decide +kernel
theorem ef_1 (m : MethodId) (x0 : Addr) (x1 : Int32) (x2 : Int32) (x3 : Int32) (x4 : Int32) (x5 : Int32) (x6 : Int32) (x7 : Int32) (x8 : Int32) (x9 : Int32) (x10 : Int32) : entryFrame m #[(.ref x0), (.int x1), (.int x2), (.int x3), (.int x4), (.int x5), (.int x6), (.int x7), (.int x8), (.int x9), (.int x10)] 11 = mkF m 0 #[.val (.ref x0), .val (.int x1), .val (.int x2), .val (.int x3), .val (.int x4), .val (.int x5), .val (.int x6), .val (.int x7), .val (.int x8), .val (.int x9), .val (.int x10)] [] := by first | (simp [entryFrame, mkF, argsToLocals, Value.category]; done) | rfl
def own_f1_segments (x1 : Int32) (x2 : Int32) (x3 : Int32) (x4 : Int32) (x5 : Int32) (x6 : Int32) (x7 : Int32) (x8 : Int32) (x9 : Int32) (x10 : Int32) : Int32 := x1
def own_f1_slotsPerTier (x1 : Int32) (x2 : Int32) (x3 : Int32) (x4 : Int32) (x5 : Int32) (x6 : Int32) (x7 : Int32) (x8 : Int32) (x9 : Int32) (x10 : Int32) : Int32 := x2
def own_f1_chunkSize (x1 : Int32) (x2 : Int32) (x3 : Int32) (x4 : Int32) (x5 : Int32) (x6 : Int32) (x7 : Int32) (x8 : Int32) (x9 : Int32) (x10 : Int32) : Int32 := x3
def own_f1_chunksPerTier (x1 : Int32) (x2 : Int32) (x3 : Int32) (x4 : Int32) (x5 : Int32) (x6 : Int32) (x7 : Int32) (x8 : Int32) (x9 : Int32) (x10 : Int32) : Int32 := x4
def own_f1_extraTiers (x1 : Int32) (x2 : Int32) (x3 : Int32) (x4 : Int32) (x5 : Int32) (x6 : Int32) (x7 : Int32) (x8 : Int32) (x9 : Int32) (x10 : Int32) : Int32 := x5
def own_f1_slotBytes (x1 : Int32) (x2 : Int32) (x3 : Int32) (x4 : Int32) (x5 : Int32) (x6 : Int32) (x7 : Int32) (x8 : Int32) (x9 : Int32) (x10 : Int32) : Int32 := x6
def own_f1_checkBytes (x1 : Int32) (x2 : Int32) (x3 : Int32) (x4 : Int32) (x5 : Int32) (x6 : Int32) (x7 : Int32) (x8 : Int32) (x9 : Int32) (x10 : Int32) : Int32 := x7
def own_f1_defaultKeySize (x1 : Int32) (x2 : Int32) (x3 : Int32) (x4 : Int32) (x5 : Int32) (x6 : Int32) (x7 : Int32) (x8 : Int32) (x9 : Int32) (x10 : Int32) : Int32 := x8
def own_f1_defaultValueSize (x1 : Int32) (x2 : Int32) (x3 : Int32) (x4 : Int32) (x5 : Int32) (x6 : Int32) (x7 : Int32) (x8 : Int32) (x9 : Int32) (x10 : Int32) : Int32 := x9
def own_f1_sizeForm (x1 : Int32) (x2 : Int32) (x3 : Int32) (x4 : Int32) (x5 : Int32) (x6 : Int32) (x7 : Int32) (x8 : Int32) (x9 : Int32) (x10 : Int32) : Int32 := x10
def own_F1 (Z : State) (x0 : Addr) (x1 : Int32) (x2 : Int32) (x3 : Int32) (x4 : Int32) (x5 : Int32) (x6 : Int32) (x7 : Int32) (x8 : Int32) (x9 : Int32) (x10 : Int32)  (n0 : Nat) (h0 : Heap) (v : Option Value) (h : Heap) (L : List Loc) : Prop := v = none ∧ Fr n0 L ∧ Keep h0 h [x0] ∧ Exa Z h x0 "com/example/keystead/keystead/Geometry" ∧ Fld Z h x0 "com/example/keystead/keystead/Geometry" "segments" "I" (.int (own_f1_segments x1 x2 x3 x4 x5 x6 x7 x8 x9 x10)) ∧ Fld Z h x0 "com/example/keystead/keystead/Geometry" "slotsPerTier" "I" (.int (own_f1_slotsPerTier x1 x2 x3 x4 x5 x6 x7 x8 x9 x10)) ∧ Fld Z h x0 "com/example/keystead/keystead/Geometry" "chunkSize" "I" (.int (own_f1_chunkSize x1 x2 x3 x4 x5 x6 x7 x8 x9 x10)) ∧ Fld Z h x0 "com/example/keystead/keystead/Geometry" "chunksPerTier" "I" (.int (own_f1_chunksPerTier x1 x2 x3 x4 x5 x6 x7 x8 x9 x10)) ∧ Fld Z h x0 "com/example/keystead/keystead/Geometry" "extraTiers" "I" (.int (own_f1_extraTiers x1 x2 x3 x4 x5 x6 x7 x8 x9 x10)) ∧ Fld Z h x0 "com/example/keystead/keystead/Geometry" "slotBytes" "I" (.int (own_f1_slotBytes x1 x2 x3 x4 x5 x6 x7 x8 x9 x10)) ∧ Fld Z h x0 "com/example/keystead/keystead/Geometry" "checkBytes" "I" (.int (own_f1_checkBytes x1 x2 x3 x4 x5 x6 x7 x8 x9 x10)) ∧ Fld Z h x0 "com/example/keystead/keystead/Geometry" "defaultKeySize" "I" (.int (own_f1_defaultKeySize x1 x2 x3 x4 x5 x6 x7 x8 x9 x10)) ∧ Fld Z h x0 "com/example/keystead/keystead/Geometry" "defaultValueSize" "I" (.int (own_f1_defaultValueSize x1 x2 x3 x4 x5 x6 x7 x8 x9 x10)) ∧ Fld Z h x0 "com/example/keystead/keystead/Geometry" "sizeForm" "I" (.int (own_f1_sizeForm x1 x2 x3 x4 x5 x6 x7 x8 x9 x10))
set_option maxRecDepth 65536 in
set_option maxHeartbeats 40000000 in
theorem own_m1 (l : Launch) (Z : State) (a0 : Array Value) (hw : ∀ d ∈ tables_1, d.before a0 Z = true) (ws : List Jvm.Cond) (x0 : Addr) (x1 : Int32) (x2 : Int32) (x3 : Int32) (x4 : Int32) (x5 : Int32) (x6 : Int32) (x7 : Int32) (x8 : Int32) (x9 : Int32) (x10 : Int32)  (n0 : Nat) (h0 : Heap) (E0 : Exa Z h0 x0 "com/example/keystead/keystead/Geometry") (g0 : n0 ≤ x0) (P0 : Fld Z h0 x0 "com/example/keystead/keystead/Geometry" "segments" "I" (.int (0 : Int32))) (P1 : Fld Z h0 x0 "com/example/keystead/keystead/Geometry" "slotsPerTier" "I" (.int (0 : Int32))) (P2 : Fld Z h0 x0 "com/example/keystead/keystead/Geometry" "chunkSize" "I" (.int (0 : Int32))) (P3 : Fld Z h0 x0 "com/example/keystead/keystead/Geometry" "chunksPerTier" "I" (.int (0 : Int32))) (P4 : Fld Z h0 x0 "com/example/keystead/keystead/Geometry" "extraTiers" "I" (.int (0 : Int32))) (P5 : Fld Z h0 x0 "com/example/keystead/keystead/Geometry" "slotBytes" "I" (.int (0 : Int32))) (P6 : Fld Z h0 x0 "com/example/keystead/keystead/Geometry" "checkBytes" "I" (.int (0 : Int32))) (P7 : Fld Z h0 x0 "com/example/keystead/keystead/Geometry" "defaultKeySize" "I" (.int (0 : Int32))) (P8 : Fld Z h0 x0 "com/example/keystead/keystead/Geometry" "defaultValueSize" "I" (.int (0 : Int32))) (P9 : Fld Z h0 x0 "com/example/keystead/keystead/Geometry" "sizeForm" "I" (.int (0 : Int32)))  :
    MetFree l (⟨"com/example/keystead/keystead/Geometry", "<init>", "(IIIIIIIIII)V"⟩ : MethodName) (head1 (Jvm.Cond.code (⟨"com/example/keystead/keystead/Geometry", "<init>", "(IIIIIIIIII)V"⟩ : MethodName) prog_25_method_3_code 11 none :: ws) ({ frames := 2, cells := 0, slots := 0, locals := 24 } : Room)) (fun a U => a = #[(.ref x0), (.int x1), (.int x2), (.int x3), (.int x4), (.int x5), (.int x6), (.int x7), (.int x8), (.int x9), (.int x10)] ∧ Z.Warmed39 U.vm ∧ U.heap = h0) (fun _ _ _ _ _ => True) (fun _ U o U' => ∃ v L, o = .returned v ∧ own_F1 Z x0 x1 x2 x3 x4 x5 x6 x7 x8 x9 x10 n0 h0 v U'.heap L ∧ FrameEnd U o U' L ({ frames := 2, cells := 0, slots := 0, locals := 24 } : Room).cells ({ frames := 2, cells := 0, slots := 0, locals := 24 } : Room).slots) := by
  refine MetFree.of_bodySF (plainFor_of_name pn_1) hisR ?_
  intro p e s m args below meth c s₁ Bd hml0 hP hK
  obtain ⟨rfl, hZ, hh⟩ := hP
  have hx := Bd.exec
  have hby := Bd.bytes
  have hml : c.maxLocals = 11 := hml0
  have hown : s.vm.findClass "com/example/keystead/keystead/Geometry" = some m.cls := findClass_of_methodNamed Bd.named
  have hnm := (name_of_methodNamed Bd.named Bd.method).1
  have X0 : Stand p l e ({ frames := 2, cells := 0, slots := 0, locals := 24 } : Room) s m #[(.ref x0), (.int x1), (.int x2), (.int x3), (.int x4), (.int x5), (.int x6), (.int x7), (.int x8), (.int x9), (.int x10)] below meth c s₁ [] 0 0 := Stand.of_body Bd
  have e0 : s₁.heap = h0 := by rw [← hh, Bd.state]; rfl
  have N0 := Fr.nil n0
  have K0 : Keep h0 h0 [x0] := Keep.refl h0 [x0]
  have Z0 : n0 ≤ h0.size := Nat.le_trans g0 (Nat.le_of_lt E0.lt)
  have hgo : own_Goes p e below s (own_F1 Z x0 x1 x2 x3 x4 x5 x6 x7 x8 x9 x10 n0 h0) 0 0 (s₁.setTop (mkF m 0 #[.val (.ref x0), .val (.int x1), .val (.int x2), .val (.int x3), .val (.int x4), .val (.int x5), .val (.int x6), .val (.int x7), .val (.int x8), .val (.int x9), .val (.int x10)] [])) := by
    refine own_Goes.step (fun t k => XS.aloadN X0.here hx rfl (hb hby d1_0) rfl rfl k) ?_
    show own_Goes p e below s (own_F1 Z x0 x1 x2 x3 x4 x5 x6 x7 x8 x9 x10 n0 h0) 0 0 (s₁.setTop (mkF m 1 #[.val (.ref x0), .val (.int x1), .val (.int x2), .val (.int x3), .val (.int x4), .val (.int x5), .val (.int x6), .val (.int x7), .val (.int x8), .val (.int x9), .val (.int x10)] [(.ref x0)]))
    obtain ⟨w1, T1, L1, q1, Y1, st1⟩ := own_spec X0 hx hZ e0 rfl hown (hw _ (List.mem_of_getElem? (i := 6) rfl)) (hw _ (List.mem_of_getElem? (i := 7) rfl)) (hw _ (List.mem_of_getElem? (i := 9) rfl)) (hw _ (List.mem_of_getElem? (i := 10) rfl)) (by decide) (own_m2 l Z a0 hw [] x0  h0  ) (by decide) (W := 0) (by decide) (by decide) (by decide) (g := (mkF m 1 #[.val (.ref x0), .val (.int x1), .val (.int x2), .val (.int x3), .val (.int x4), .val (.int x5), .val (.int x6), .val (.int x7), .val (.int x8), .val (.int x9), .val (.int x10)] [(.ref x0)])) rfl (by rw [hml]; rfl) (a := x0) (argsL := []) (rest := []) (lenOf pd_2 rfl) rfl (by show 2 * 0 + _ ≤ _; exact Nat.le_of_eq rfl) (hb hby d1_1)
    obtain ⟨e1, X1⟩ := own_clean q1 Y1 rfl rfl
    obtain ⟨rfl, -, -⟩ := q1
    refine own_Goes.step st1 ?_
    show own_Goes p e below s (own_F1 Z x0 x1 x2 x3 x4 x5 x6 x7 x8 x9 x10 n0 h0) 0 0 (T1.setTop (mkF m 4 #[.val (.ref x0), .val (.int x1), .val (.int x2), .val (.int x3), .val (.int x4), .val (.int x5), .val (.int x6), .val (.int x7), .val (.int x8), .val (.int x9), .val (.int x10)] []))
    refine own_Goes.step (fun t k => XS.aloadN X1.here hx rfl (hb hby d1_4) rfl rfl k) ?_
    show own_Goes p e below s (own_F1 Z x0 x1 x2 x3 x4 x5 x6 x7 x8 x9 x10 n0 h0) 0 0 (T1.setTop (mkF m 5 #[.val (.ref x0), .val (.int x1), .val (.int x2), .val (.int x3), .val (.int x4), .val (.int x5), .val (.int x6), .val (.int x7), .val (.int x8), .val (.int x9), .val (.int x10)] [(.ref x0)]))
    refine own_Goes.step (fun t k => XS.iloadN X1.here hx rfl (hb hby d1_5) rfl k) ?_
    show own_Goes p e below s (own_F1 Z x0 x1 x2 x3 x4 x5 x6 x7 x8 x9 x10 n0 h0) 0 0 (T1.setTop (mkF m 6 #[.val (.ref x0), .val (.int x1), .val (.int x2), .val (.int x3), .val (.int x4), .val (.int x5), .val (.int x6), .val (.int x7), .val (.int x8), .val (.int x9), .val (.int x10)] [(.int x1), (.ref x0)]))
    obtain ⟨T2, h2, X2, e2, W2, st2⟩ := putF X1 hx hZ hown (host := "") (Or.inl (hw _ (List.mem_of_getElem? (i := 14) rfl))) Via.refl e1 (v := (.int x1)) P0 E0 (Or.inr ⟨(hw _ (List.mem_of_getElem? (i := 15) rfl)), rfl, hnm⟩) (hw _ (List.mem_of_getElem? (i := 1) rfl)) (ty := .int) (by decide) rfl rfl (g := (mkF m 6 #[.val (.ref x0), .val (.int x1), .val (.int x2), .val (.int x3), .val (.int x4), .val (.int x5), .val (.int x6), .val (.int x7), .val (.int x8), .val (.int x9), .val (.int x10)] [(.int x1), (.ref x0)])) rfl rfl (hb hby d1_6)
    refine own_Goes.step st2 ?_
    have f3 := E0.wr W2
    have f4 := P0.same W2
    have f5 := P1.other W2 (Or.inr (slot_ne (Or.inr (hw _ (List.mem_of_getElem? (i := 17) rfl))) (Or.inr (hw _ (List.mem_of_getElem? (i := 15) rfl))) (by decide) (t := .int) (t' := .int) (by decide) (by decide)))
    have f6 := P2.other W2 (Or.inr (slot_ne (Or.inr (hw _ (List.mem_of_getElem? (i := 19) rfl))) (Or.inr (hw _ (List.mem_of_getElem? (i := 15) rfl))) (by decide) (t := .int) (t' := .int) (by decide) (by decide)))
    have f7 := P3.other W2 (Or.inr (slot_ne (Or.inr (hw _ (List.mem_of_getElem? (i := 21) rfl))) (Or.inr (hw _ (List.mem_of_getElem? (i := 15) rfl))) (by decide) (t := .int) (t' := .int) (by decide) (by decide)))
    have f8 := P4.other W2 (Or.inr (slot_ne (Or.inr (hw _ (List.mem_of_getElem? (i := 23) rfl))) (Or.inr (hw _ (List.mem_of_getElem? (i := 15) rfl))) (by decide) (t := .int) (t' := .int) (by decide) (by decide)))
    have f9 := P5.other W2 (Or.inr (slot_ne (Or.inr (hw _ (List.mem_of_getElem? (i := 25) rfl))) (Or.inr (hw _ (List.mem_of_getElem? (i := 15) rfl))) (by decide) (t := .int) (t' := .int) (by decide) (by decide)))
    have f10 := P6.other W2 (Or.inr (slot_ne (Or.inr (hw _ (List.mem_of_getElem? (i := 27) rfl))) (Or.inr (hw _ (List.mem_of_getElem? (i := 15) rfl))) (by decide) (t := .int) (t' := .int) (by decide) (by decide)))
    have f11 := P7.other W2 (Or.inr (slot_ne (Or.inr (hw _ (List.mem_of_getElem? (i := 29) rfl))) (Or.inr (hw _ (List.mem_of_getElem? (i := 15) rfl))) (by decide) (t := .int) (t' := .int) (by decide) (by decide)))
    have f12 := P8.other W2 (Or.inr (slot_ne (Or.inr (hw _ (List.mem_of_getElem? (i := 31) rfl))) (Or.inr (hw _ (List.mem_of_getElem? (i := 15) rfl))) (by decide) (t := .int) (t' := .int) (by decide) (by decide)))
    have f13 := P9.other W2 (Or.inr (slot_ne (Or.inr (hw _ (List.mem_of_getElem? (i := 33) rfl))) (Or.inr (hw _ (List.mem_of_getElem? (i := 15) rfl))) (by decide) (t := .int) (t' := .int) (by decide) (by decide)))
    have K14 := K0.wr W2 (Or.inl (List.mem_of_getElem? (i := 0) rfl))
    have N15 := Fr.snoc X2 N0 g0
    have Z16 : n0 ≤ h2.size := Nat.le_trans Z0 (Keep.of_wr W2).1
    show own_Goes p e below s (own_F1 Z x0 x1 x2 x3 x4 x5 x6 x7 x8 x9 x10 n0 h0) 0 0 (T2.setTop (mkF m 9 #[.val (.ref x0), .val (.int x1), .val (.int x2), .val (.int x3), .val (.int x4), .val (.int x5), .val (.int x6), .val (.int x7), .val (.int x8), .val (.int x9), .val (.int x10)] []))
    refine own_Goes.step (fun t k => XS.aloadN X2.here hx rfl (hb hby d1_9) rfl rfl k) ?_
    show own_Goes p e below s (own_F1 Z x0 x1 x2 x3 x4 x5 x6 x7 x8 x9 x10 n0 h0) 0 0 (T2.setTop (mkF m 10 #[.val (.ref x0), .val (.int x1), .val (.int x2), .val (.int x3), .val (.int x4), .val (.int x5), .val (.int x6), .val (.int x7), .val (.int x8), .val (.int x9), .val (.int x10)] [(.ref x0)]))
    refine own_Goes.step (fun t k => XS.iloadN X2.here hx rfl (hb hby d1_10) rfl k) ?_
    show own_Goes p e below s (own_F1 Z x0 x1 x2 x3 x4 x5 x6 x7 x8 x9 x10 n0 h0) 0 0 (T2.setTop (mkF m 11 #[.val (.ref x0), .val (.int x1), .val (.int x2), .val (.int x3), .val (.int x4), .val (.int x5), .val (.int x6), .val (.int x7), .val (.int x8), .val (.int x9), .val (.int x10)] [(.int x2), (.ref x0)]))
    obtain ⟨T17, h17, X17, e17, W17, st17⟩ := putF X2 hx hZ hown (host := "") (Or.inl (hw _ (List.mem_of_getElem? (i := 16) rfl))) Via.refl e2 (v := (.int x2)) f5 f3 (Or.inr ⟨(hw _ (List.mem_of_getElem? (i := 17) rfl)), rfl, hnm⟩) (hw _ (List.mem_of_getElem? (i := 1) rfl)) (ty := .int) (by decide) rfl rfl (g := (mkF m 11 #[.val (.ref x0), .val (.int x1), .val (.int x2), .val (.int x3), .val (.int x4), .val (.int x5), .val (.int x6), .val (.int x7), .val (.int x8), .val (.int x9), .val (.int x10)] [(.int x2), (.ref x0)])) rfl rfl (hb hby d1_11)
    refine own_Goes.step st17 ?_
    have f18 := f3.wr W17
    have f19 := f4.other W17 (Or.inr (slot_ne (Or.inr (hw _ (List.mem_of_getElem? (i := 15) rfl))) (Or.inr (hw _ (List.mem_of_getElem? (i := 17) rfl))) (by decide) (t := .int) (t' := .int) (by decide) (by decide)))
    have f20 := f5.same W17
    have f21 := f6.other W17 (Or.inr (slot_ne (Or.inr (hw _ (List.mem_of_getElem? (i := 19) rfl))) (Or.inr (hw _ (List.mem_of_getElem? (i := 17) rfl))) (by decide) (t := .int) (t' := .int) (by decide) (by decide)))
    have f22 := f7.other W17 (Or.inr (slot_ne (Or.inr (hw _ (List.mem_of_getElem? (i := 21) rfl))) (Or.inr (hw _ (List.mem_of_getElem? (i := 17) rfl))) (by decide) (t := .int) (t' := .int) (by decide) (by decide)))
    have f23 := f8.other W17 (Or.inr (slot_ne (Or.inr (hw _ (List.mem_of_getElem? (i := 23) rfl))) (Or.inr (hw _ (List.mem_of_getElem? (i := 17) rfl))) (by decide) (t := .int) (t' := .int) (by decide) (by decide)))
    have f24 := f9.other W17 (Or.inr (slot_ne (Or.inr (hw _ (List.mem_of_getElem? (i := 25) rfl))) (Or.inr (hw _ (List.mem_of_getElem? (i := 17) rfl))) (by decide) (t := .int) (t' := .int) (by decide) (by decide)))
    have f25 := f10.other W17 (Or.inr (slot_ne (Or.inr (hw _ (List.mem_of_getElem? (i := 27) rfl))) (Or.inr (hw _ (List.mem_of_getElem? (i := 17) rfl))) (by decide) (t := .int) (t' := .int) (by decide) (by decide)))
    have f26 := f11.other W17 (Or.inr (slot_ne (Or.inr (hw _ (List.mem_of_getElem? (i := 29) rfl))) (Or.inr (hw _ (List.mem_of_getElem? (i := 17) rfl))) (by decide) (t := .int) (t' := .int) (by decide) (by decide)))
    have f27 := f12.other W17 (Or.inr (slot_ne (Or.inr (hw _ (List.mem_of_getElem? (i := 31) rfl))) (Or.inr (hw _ (List.mem_of_getElem? (i := 17) rfl))) (by decide) (t := .int) (t' := .int) (by decide) (by decide)))
    have f28 := f13.other W17 (Or.inr (slot_ne (Or.inr (hw _ (List.mem_of_getElem? (i := 33) rfl))) (Or.inr (hw _ (List.mem_of_getElem? (i := 17) rfl))) (by decide) (t := .int) (t' := .int) (by decide) (by decide)))
    have K29 := K14.wr W17 (Or.inl (List.mem_of_getElem? (i := 0) rfl))
    have N30 := Fr.snoc X17 N15 g0
    have Z31 : n0 ≤ h17.size := Nat.le_trans Z16 (Keep.of_wr W17).1
    show own_Goes p e below s (own_F1 Z x0 x1 x2 x3 x4 x5 x6 x7 x8 x9 x10 n0 h0) 0 0 (T17.setTop (mkF m 14 #[.val (.ref x0), .val (.int x1), .val (.int x2), .val (.int x3), .val (.int x4), .val (.int x5), .val (.int x6), .val (.int x7), .val (.int x8), .val (.int x9), .val (.int x10)] []))
    refine own_Goes.step (fun t k => XS.aloadN X17.here hx rfl (hb hby d1_14) rfl rfl k) ?_
    show own_Goes p e below s (own_F1 Z x0 x1 x2 x3 x4 x5 x6 x7 x8 x9 x10 n0 h0) 0 0 (T17.setTop (mkF m 15 #[.val (.ref x0), .val (.int x1), .val (.int x2), .val (.int x3), .val (.int x4), .val (.int x5), .val (.int x6), .val (.int x7), .val (.int x8), .val (.int x9), .val (.int x10)] [(.ref x0)]))
    refine own_Goes.step (fun t k => XS.iloadN X17.here hx rfl (hb hby d1_15) rfl k) ?_
    show own_Goes p e below s (own_F1 Z x0 x1 x2 x3 x4 x5 x6 x7 x8 x9 x10 n0 h0) 0 0 (T17.setTop (mkF m 16 #[.val (.ref x0), .val (.int x1), .val (.int x2), .val (.int x3), .val (.int x4), .val (.int x5), .val (.int x6), .val (.int x7), .val (.int x8), .val (.int x9), .val (.int x10)] [(.int x3), (.ref x0)]))
    obtain ⟨T32, h32, X32, e32, W32, st32⟩ := putF X17 hx hZ hown (host := "") (Or.inl (hw _ (List.mem_of_getElem? (i := 18) rfl))) Via.refl e17 (v := (.int x3)) f21 f18 (Or.inr ⟨(hw _ (List.mem_of_getElem? (i := 19) rfl)), rfl, hnm⟩) (hw _ (List.mem_of_getElem? (i := 1) rfl)) (ty := .int) (by decide) rfl rfl (g := (mkF m 16 #[.val (.ref x0), .val (.int x1), .val (.int x2), .val (.int x3), .val (.int x4), .val (.int x5), .val (.int x6), .val (.int x7), .val (.int x8), .val (.int x9), .val (.int x10)] [(.int x3), (.ref x0)])) rfl rfl (hb hby d1_16)
    refine own_Goes.step st32 ?_
    have f33 := f18.wr W32
    have f34 := f19.other W32 (Or.inr (slot_ne (Or.inr (hw _ (List.mem_of_getElem? (i := 15) rfl))) (Or.inr (hw _ (List.mem_of_getElem? (i := 19) rfl))) (by decide) (t := .int) (t' := .int) (by decide) (by decide)))
    have f35 := f20.other W32 (Or.inr (slot_ne (Or.inr (hw _ (List.mem_of_getElem? (i := 17) rfl))) (Or.inr (hw _ (List.mem_of_getElem? (i := 19) rfl))) (by decide) (t := .int) (t' := .int) (by decide) (by decide)))
    have f36 := f21.same W32
    have f37 := f22.other W32 (Or.inr (slot_ne (Or.inr (hw _ (List.mem_of_getElem? (i := 21) rfl))) (Or.inr (hw _ (List.mem_of_getElem? (i := 19) rfl))) (by decide) (t := .int) (t' := .int) (by decide) (by decide)))
    have f38 := f23.other W32 (Or.inr (slot_ne (Or.inr (hw _ (List.mem_of_getElem? (i := 23) rfl))) (Or.inr (hw _ (List.mem_of_getElem? (i := 19) rfl))) (by decide) (t := .int) (t' := .int) (by decide) (by decide)))
    have f39 := f24.other W32 (Or.inr (slot_ne (Or.inr (hw _ (List.mem_of_getElem? (i := 25) rfl))) (Or.inr (hw _ (List.mem_of_getElem? (i := 19) rfl))) (by decide) (t := .int) (t' := .int) (by decide) (by decide)))
    have f40 := f25.other W32 (Or.inr (slot_ne (Or.inr (hw _ (List.mem_of_getElem? (i := 27) rfl))) (Or.inr (hw _ (List.mem_of_getElem? (i := 19) rfl))) (by decide) (t := .int) (t' := .int) (by decide) (by decide)))
    have f41 := f26.other W32 (Or.inr (slot_ne (Or.inr (hw _ (List.mem_of_getElem? (i := 29) rfl))) (Or.inr (hw _ (List.mem_of_getElem? (i := 19) rfl))) (by decide) (t := .int) (t' := .int) (by decide) (by decide)))
    have f42 := f27.other W32 (Or.inr (slot_ne (Or.inr (hw _ (List.mem_of_getElem? (i := 31) rfl))) (Or.inr (hw _ (List.mem_of_getElem? (i := 19) rfl))) (by decide) (t := .int) (t' := .int) (by decide) (by decide)))
    have f43 := f28.other W32 (Or.inr (slot_ne (Or.inr (hw _ (List.mem_of_getElem? (i := 33) rfl))) (Or.inr (hw _ (List.mem_of_getElem? (i := 19) rfl))) (by decide) (t := .int) (t' := .int) (by decide) (by decide)))
    have K44 := K29.wr W32 (Or.inl (List.mem_of_getElem? (i := 0) rfl))
    have N45 := Fr.snoc X32 N30 g0
    have Z46 : n0 ≤ h32.size := Nat.le_trans Z31 (Keep.of_wr W32).1
    show own_Goes p e below s (own_F1 Z x0 x1 x2 x3 x4 x5 x6 x7 x8 x9 x10 n0 h0) 0 0 (T32.setTop (mkF m 19 #[.val (.ref x0), .val (.int x1), .val (.int x2), .val (.int x3), .val (.int x4), .val (.int x5), .val (.int x6), .val (.int x7), .val (.int x8), .val (.int x9), .val (.int x10)] []))
    refine own_Goes.step (fun t k => XS.aloadN X32.here hx rfl (hb hby d1_19) rfl rfl k) ?_
    show own_Goes p e below s (own_F1 Z x0 x1 x2 x3 x4 x5 x6 x7 x8 x9 x10 n0 h0) 0 0 (T32.setTop (mkF m 20 #[.val (.ref x0), .val (.int x1), .val (.int x2), .val (.int x3), .val (.int x4), .val (.int x5), .val (.int x6), .val (.int x7), .val (.int x8), .val (.int x9), .val (.int x10)] [(.ref x0)]))
    refine own_Goes.step (fun t k => XS.iload X32.here hx rfl (hb hby d1_20) rfl k) ?_
    show own_Goes p e below s (own_F1 Z x0 x1 x2 x3 x4 x5 x6 x7 x8 x9 x10 n0 h0) 0 0 (T32.setTop (mkF m 22 #[.val (.ref x0), .val (.int x1), .val (.int x2), .val (.int x3), .val (.int x4), .val (.int x5), .val (.int x6), .val (.int x7), .val (.int x8), .val (.int x9), .val (.int x10)] [(.int x4), (.ref x0)]))
    obtain ⟨T47, h47, X47, e47, W47, st47⟩ := putF X32 hx hZ hown (host := "") (Or.inl (hw _ (List.mem_of_getElem? (i := 20) rfl))) Via.refl e32 (v := (.int x4)) f37 f33 (Or.inr ⟨(hw _ (List.mem_of_getElem? (i := 21) rfl)), rfl, hnm⟩) (hw _ (List.mem_of_getElem? (i := 1) rfl)) (ty := .int) (by decide) rfl rfl (g := (mkF m 22 #[.val (.ref x0), .val (.int x1), .val (.int x2), .val (.int x3), .val (.int x4), .val (.int x5), .val (.int x6), .val (.int x7), .val (.int x8), .val (.int x9), .val (.int x10)] [(.int x4), (.ref x0)])) rfl rfl (hb hby d1_22)
    refine own_Goes.step st47 ?_
    have f48 := f33.wr W47
    have f49 := f34.other W47 (Or.inr (slot_ne (Or.inr (hw _ (List.mem_of_getElem? (i := 15) rfl))) (Or.inr (hw _ (List.mem_of_getElem? (i := 21) rfl))) (by decide) (t := .int) (t' := .int) (by decide) (by decide)))
    have f50 := f35.other W47 (Or.inr (slot_ne (Or.inr (hw _ (List.mem_of_getElem? (i := 17) rfl))) (Or.inr (hw _ (List.mem_of_getElem? (i := 21) rfl))) (by decide) (t := .int) (t' := .int) (by decide) (by decide)))
    have f51 := f36.other W47 (Or.inr (slot_ne (Or.inr (hw _ (List.mem_of_getElem? (i := 19) rfl))) (Or.inr (hw _ (List.mem_of_getElem? (i := 21) rfl))) (by decide) (t := .int) (t' := .int) (by decide) (by decide)))
    have f52 := f37.same W47
    have f53 := f38.other W47 (Or.inr (slot_ne (Or.inr (hw _ (List.mem_of_getElem? (i := 23) rfl))) (Or.inr (hw _ (List.mem_of_getElem? (i := 21) rfl))) (by decide) (t := .int) (t' := .int) (by decide) (by decide)))
    have f54 := f39.other W47 (Or.inr (slot_ne (Or.inr (hw _ (List.mem_of_getElem? (i := 25) rfl))) (Or.inr (hw _ (List.mem_of_getElem? (i := 21) rfl))) (by decide) (t := .int) (t' := .int) (by decide) (by decide)))
    have f55 := f40.other W47 (Or.inr (slot_ne (Or.inr (hw _ (List.mem_of_getElem? (i := 27) rfl))) (Or.inr (hw _ (List.mem_of_getElem? (i := 21) rfl))) (by decide) (t := .int) (t' := .int) (by decide) (by decide)))
    have f56 := f41.other W47 (Or.inr (slot_ne (Or.inr (hw _ (List.mem_of_getElem? (i := 29) rfl))) (Or.inr (hw _ (List.mem_of_getElem? (i := 21) rfl))) (by decide) (t := .int) (t' := .int) (by decide) (by decide)))
    have f57 := f42.other W47 (Or.inr (slot_ne (Or.inr (hw _ (List.mem_of_getElem? (i := 31) rfl))) (Or.inr (hw _ (List.mem_of_getElem? (i := 21) rfl))) (by decide) (t := .int) (t' := .int) (by decide) (by decide)))
    have f58 := f43.other W47 (Or.inr (slot_ne (Or.inr (hw _ (List.mem_of_getElem? (i := 33) rfl))) (Or.inr (hw _ (List.mem_of_getElem? (i := 21) rfl))) (by decide) (t := .int) (t' := .int) (by decide) (by decide)))
    have K59 := K44.wr W47 (Or.inl (List.mem_of_getElem? (i := 0) rfl))
    have N60 := Fr.snoc X47 N45 g0
    have Z61 : n0 ≤ h47.size := Nat.le_trans Z46 (Keep.of_wr W47).1
    show own_Goes p e below s (own_F1 Z x0 x1 x2 x3 x4 x5 x6 x7 x8 x9 x10 n0 h0) 0 0 (T47.setTop (mkF m 25 #[.val (.ref x0), .val (.int x1), .val (.int x2), .val (.int x3), .val (.int x4), .val (.int x5), .val (.int x6), .val (.int x7), .val (.int x8), .val (.int x9), .val (.int x10)] []))
    refine own_Goes.step (fun t k => XS.aloadN X47.here hx rfl (hb hby d1_25) rfl rfl k) ?_
    show own_Goes p e below s (own_F1 Z x0 x1 x2 x3 x4 x5 x6 x7 x8 x9 x10 n0 h0) 0 0 (T47.setTop (mkF m 26 #[.val (.ref x0), .val (.int x1), .val (.int x2), .val (.int x3), .val (.int x4), .val (.int x5), .val (.int x6), .val (.int x7), .val (.int x8), .val (.int x9), .val (.int x10)] [(.ref x0)]))
    refine own_Goes.step (fun t k => XS.iload X47.here hx rfl (hb hby d1_26) rfl k) ?_
    show own_Goes p e below s (own_F1 Z x0 x1 x2 x3 x4 x5 x6 x7 x8 x9 x10 n0 h0) 0 0 (T47.setTop (mkF m 28 #[.val (.ref x0), .val (.int x1), .val (.int x2), .val (.int x3), .val (.int x4), .val (.int x5), .val (.int x6), .val (.int x7), .val (.int x8), .val (.int x9), .val (.int x10)] [(.int x5), (.ref x0)]))
    obtain ⟨T62, h62, X62, e62, W62, st62⟩ := putF X47 hx hZ hown (host := "") (Or.inl (hw _ (List.mem_of_getElem? (i := 22) rfl))) Via.refl e47 (v := (.int x5)) f53 f48 (Or.inr ⟨(hw _ (List.mem_of_getElem? (i := 23) rfl)), rfl, hnm⟩) (hw _ (List.mem_of_getElem? (i := 1) rfl)) (ty := .int) (by decide) rfl rfl (g := (mkF m 28 #[.val (.ref x0), .val (.int x1), .val (.int x2), .val (.int x3), .val (.int x4), .val (.int x5), .val (.int x6), .val (.int x7), .val (.int x8), .val (.int x9), .val (.int x10)] [(.int x5), (.ref x0)])) rfl rfl (hb hby d1_28)
    refine own_Goes.step st62 ?_
    have f63 := f48.wr W62
    have f64 := f49.other W62 (Or.inr (slot_ne (Or.inr (hw _ (List.mem_of_getElem? (i := 15) rfl))) (Or.inr (hw _ (List.mem_of_getElem? (i := 23) rfl))) (by decide) (t := .int) (t' := .int) (by decide) (by decide)))
    have f65 := f50.other W62 (Or.inr (slot_ne (Or.inr (hw _ (List.mem_of_getElem? (i := 17) rfl))) (Or.inr (hw _ (List.mem_of_getElem? (i := 23) rfl))) (by decide) (t := .int) (t' := .int) (by decide) (by decide)))
    have f66 := f51.other W62 (Or.inr (slot_ne (Or.inr (hw _ (List.mem_of_getElem? (i := 19) rfl))) (Or.inr (hw _ (List.mem_of_getElem? (i := 23) rfl))) (by decide) (t := .int) (t' := .int) (by decide) (by decide)))
    have f67 := f52.other W62 (Or.inr (slot_ne (Or.inr (hw _ (List.mem_of_getElem? (i := 21) rfl))) (Or.inr (hw _ (List.mem_of_getElem? (i := 23) rfl))) (by decide) (t := .int) (t' := .int) (by decide) (by decide)))
    have f68 := f53.same W62
    have f69 := f54.other W62 (Or.inr (slot_ne (Or.inr (hw _ (List.mem_of_getElem? (i := 25) rfl))) (Or.inr (hw _ (List.mem_of_getElem? (i := 23) rfl))) (by decide) (t := .int) (t' := .int) (by decide) (by decide)))
    have f70 := f55.other W62 (Or.inr (slot_ne (Or.inr (hw _ (List.mem_of_getElem? (i := 27) rfl))) (Or.inr (hw _ (List.mem_of_getElem? (i := 23) rfl))) (by decide) (t := .int) (t' := .int) (by decide) (by decide)))
    have f71 := f56.other W62 (Or.inr (slot_ne (Or.inr (hw _ (List.mem_of_getElem? (i := 29) rfl))) (Or.inr (hw _ (List.mem_of_getElem? (i := 23) rfl))) (by decide) (t := .int) (t' := .int) (by decide) (by decide)))
    have f72 := f57.other W62 (Or.inr (slot_ne (Or.inr (hw _ (List.mem_of_getElem? (i := 31) rfl))) (Or.inr (hw _ (List.mem_of_getElem? (i := 23) rfl))) (by decide) (t := .int) (t' := .int) (by decide) (by decide)))
    have f73 := f58.other W62 (Or.inr (slot_ne (Or.inr (hw _ (List.mem_of_getElem? (i := 33) rfl))) (Or.inr (hw _ (List.mem_of_getElem? (i := 23) rfl))) (by decide) (t := .int) (t' := .int) (by decide) (by decide)))
    have K74 := K59.wr W62 (Or.inl (List.mem_of_getElem? (i := 0) rfl))
    have N75 := Fr.snoc X62 N60 g0
    have Z76 : n0 ≤ h62.size := Nat.le_trans Z61 (Keep.of_wr W62).1
    show own_Goes p e below s (own_F1 Z x0 x1 x2 x3 x4 x5 x6 x7 x8 x9 x10 n0 h0) 0 0 (T62.setTop (mkF m 31 #[.val (.ref x0), .val (.int x1), .val (.int x2), .val (.int x3), .val (.int x4), .val (.int x5), .val (.int x6), .val (.int x7), .val (.int x8), .val (.int x9), .val (.int x10)] []))
    refine own_Goes.step (fun t k => XS.aloadN X62.here hx rfl (hb hby d1_31) rfl rfl k) ?_
    show own_Goes p e below s (own_F1 Z x0 x1 x2 x3 x4 x5 x6 x7 x8 x9 x10 n0 h0) 0 0 (T62.setTop (mkF m 32 #[.val (.ref x0), .val (.int x1), .val (.int x2), .val (.int x3), .val (.int x4), .val (.int x5), .val (.int x6), .val (.int x7), .val (.int x8), .val (.int x9), .val (.int x10)] [(.ref x0)]))
    refine own_Goes.step (fun t k => XS.iload X62.here hx rfl (hb hby d1_32) rfl k) ?_
    show own_Goes p e below s (own_F1 Z x0 x1 x2 x3 x4 x5 x6 x7 x8 x9 x10 n0 h0) 0 0 (T62.setTop (mkF m 34 #[.val (.ref x0), .val (.int x1), .val (.int x2), .val (.int x3), .val (.int x4), .val (.int x5), .val (.int x6), .val (.int x7), .val (.int x8), .val (.int x9), .val (.int x10)] [(.int x6), (.ref x0)]))
    obtain ⟨T77, h77, X77, e77, W77, st77⟩ := putF X62 hx hZ hown (host := "") (Or.inl (hw _ (List.mem_of_getElem? (i := 24) rfl))) Via.refl e62 (v := (.int x6)) f69 f63 (Or.inr ⟨(hw _ (List.mem_of_getElem? (i := 25) rfl)), rfl, hnm⟩) (hw _ (List.mem_of_getElem? (i := 1) rfl)) (ty := .int) (by decide) rfl rfl (g := (mkF m 34 #[.val (.ref x0), .val (.int x1), .val (.int x2), .val (.int x3), .val (.int x4), .val (.int x5), .val (.int x6), .val (.int x7), .val (.int x8), .val (.int x9), .val (.int x10)] [(.int x6), (.ref x0)])) rfl rfl (hb hby d1_34)
    refine own_Goes.step st77 ?_
    have f78 := f63.wr W77
    have f79 := f64.other W77 (Or.inr (slot_ne (Or.inr (hw _ (List.mem_of_getElem? (i := 15) rfl))) (Or.inr (hw _ (List.mem_of_getElem? (i := 25) rfl))) (by decide) (t := .int) (t' := .int) (by decide) (by decide)))
    have f80 := f65.other W77 (Or.inr (slot_ne (Or.inr (hw _ (List.mem_of_getElem? (i := 17) rfl))) (Or.inr (hw _ (List.mem_of_getElem? (i := 25) rfl))) (by decide) (t := .int) (t' := .int) (by decide) (by decide)))
    have f81 := f66.other W77 (Or.inr (slot_ne (Or.inr (hw _ (List.mem_of_getElem? (i := 19) rfl))) (Or.inr (hw _ (List.mem_of_getElem? (i := 25) rfl))) (by decide) (t := .int) (t' := .int) (by decide) (by decide)))
    have f82 := f67.other W77 (Or.inr (slot_ne (Or.inr (hw _ (List.mem_of_getElem? (i := 21) rfl))) (Or.inr (hw _ (List.mem_of_getElem? (i := 25) rfl))) (by decide) (t := .int) (t' := .int) (by decide) (by decide)))
    have f83 := f68.other W77 (Or.inr (slot_ne (Or.inr (hw _ (List.mem_of_getElem? (i := 23) rfl))) (Or.inr (hw _ (List.mem_of_getElem? (i := 25) rfl))) (by decide) (t := .int) (t' := .int) (by decide) (by decide)))
    have f84 := f69.same W77
    have f85 := f70.other W77 (Or.inr (slot_ne (Or.inr (hw _ (List.mem_of_getElem? (i := 27) rfl))) (Or.inr (hw _ (List.mem_of_getElem? (i := 25) rfl))) (by decide) (t := .int) (t' := .int) (by decide) (by decide)))
    have f86 := f71.other W77 (Or.inr (slot_ne (Or.inr (hw _ (List.mem_of_getElem? (i := 29) rfl))) (Or.inr (hw _ (List.mem_of_getElem? (i := 25) rfl))) (by decide) (t := .int) (t' := .int) (by decide) (by decide)))
    have f87 := f72.other W77 (Or.inr (slot_ne (Or.inr (hw _ (List.mem_of_getElem? (i := 31) rfl))) (Or.inr (hw _ (List.mem_of_getElem? (i := 25) rfl))) (by decide) (t := .int) (t' := .int) (by decide) (by decide)))
    have f88 := f73.other W77 (Or.inr (slot_ne (Or.inr (hw _ (List.mem_of_getElem? (i := 33) rfl))) (Or.inr (hw _ (List.mem_of_getElem? (i := 25) rfl))) (by decide) (t := .int) (t' := .int) (by decide) (by decide)))
    have K89 := K74.wr W77 (Or.inl (List.mem_of_getElem? (i := 0) rfl))
    have N90 := Fr.snoc X77 N75 g0
    have Z91 : n0 ≤ h77.size := Nat.le_trans Z76 (Keep.of_wr W77).1
    show own_Goes p e below s (own_F1 Z x0 x1 x2 x3 x4 x5 x6 x7 x8 x9 x10 n0 h0) 0 0 (T77.setTop (mkF m 37 #[.val (.ref x0), .val (.int x1), .val (.int x2), .val (.int x3), .val (.int x4), .val (.int x5), .val (.int x6), .val (.int x7), .val (.int x8), .val (.int x9), .val (.int x10)] []))
    refine own_Goes.step (fun t k => XS.aloadN X77.here hx rfl (hb hby d1_37) rfl rfl k) ?_
    show own_Goes p e below s (own_F1 Z x0 x1 x2 x3 x4 x5 x6 x7 x8 x9 x10 n0 h0) 0 0 (T77.setTop (mkF m 38 #[.val (.ref x0), .val (.int x1), .val (.int x2), .val (.int x3), .val (.int x4), .val (.int x5), .val (.int x6), .val (.int x7), .val (.int x8), .val (.int x9), .val (.int x10)] [(.ref x0)]))
    refine own_Goes.step (fun t k => XS.iload X77.here hx rfl (hb hby d1_38) rfl k) ?_
    show own_Goes p e below s (own_F1 Z x0 x1 x2 x3 x4 x5 x6 x7 x8 x9 x10 n0 h0) 0 0 (T77.setTop (mkF m 40 #[.val (.ref x0), .val (.int x1), .val (.int x2), .val (.int x3), .val (.int x4), .val (.int x5), .val (.int x6), .val (.int x7), .val (.int x8), .val (.int x9), .val (.int x10)] [(.int x7), (.ref x0)]))
    obtain ⟨T92, h92, X92, e92, W92, st92⟩ := putF X77 hx hZ hown (host := "") (Or.inl (hw _ (List.mem_of_getElem? (i := 26) rfl))) Via.refl e77 (v := (.int x7)) f85 f78 (Or.inr ⟨(hw _ (List.mem_of_getElem? (i := 27) rfl)), rfl, hnm⟩) (hw _ (List.mem_of_getElem? (i := 1) rfl)) (ty := .int) (by decide) rfl rfl (g := (mkF m 40 #[.val (.ref x0), .val (.int x1), .val (.int x2), .val (.int x3), .val (.int x4), .val (.int x5), .val (.int x6), .val (.int x7), .val (.int x8), .val (.int x9), .val (.int x10)] [(.int x7), (.ref x0)])) rfl rfl (hb hby d1_40)
    refine own_Goes.step st92 ?_
    have f93 := f78.wr W92
    have f94 := f79.other W92 (Or.inr (slot_ne (Or.inr (hw _ (List.mem_of_getElem? (i := 15) rfl))) (Or.inr (hw _ (List.mem_of_getElem? (i := 27) rfl))) (by decide) (t := .int) (t' := .int) (by decide) (by decide)))
    have f95 := f80.other W92 (Or.inr (slot_ne (Or.inr (hw _ (List.mem_of_getElem? (i := 17) rfl))) (Or.inr (hw _ (List.mem_of_getElem? (i := 27) rfl))) (by decide) (t := .int) (t' := .int) (by decide) (by decide)))
    have f96 := f81.other W92 (Or.inr (slot_ne (Or.inr (hw _ (List.mem_of_getElem? (i := 19) rfl))) (Or.inr (hw _ (List.mem_of_getElem? (i := 27) rfl))) (by decide) (t := .int) (t' := .int) (by decide) (by decide)))
    have f97 := f82.other W92 (Or.inr (slot_ne (Or.inr (hw _ (List.mem_of_getElem? (i := 21) rfl))) (Or.inr (hw _ (List.mem_of_getElem? (i := 27) rfl))) (by decide) (t := .int) (t' := .int) (by decide) (by decide)))
    have f98 := f83.other W92 (Or.inr (slot_ne (Or.inr (hw _ (List.mem_of_getElem? (i := 23) rfl))) (Or.inr (hw _ (List.mem_of_getElem? (i := 27) rfl))) (by decide) (t := .int) (t' := .int) (by decide) (by decide)))
    have f99 := f84.other W92 (Or.inr (slot_ne (Or.inr (hw _ (List.mem_of_getElem? (i := 25) rfl))) (Or.inr (hw _ (List.mem_of_getElem? (i := 27) rfl))) (by decide) (t := .int) (t' := .int) (by decide) (by decide)))
    have f100 := f85.same W92
    have f101 := f86.other W92 (Or.inr (slot_ne (Or.inr (hw _ (List.mem_of_getElem? (i := 29) rfl))) (Or.inr (hw _ (List.mem_of_getElem? (i := 27) rfl))) (by decide) (t := .int) (t' := .int) (by decide) (by decide)))
    have f102 := f87.other W92 (Or.inr (slot_ne (Or.inr (hw _ (List.mem_of_getElem? (i := 31) rfl))) (Or.inr (hw _ (List.mem_of_getElem? (i := 27) rfl))) (by decide) (t := .int) (t' := .int) (by decide) (by decide)))
    have f103 := f88.other W92 (Or.inr (slot_ne (Or.inr (hw _ (List.mem_of_getElem? (i := 33) rfl))) (Or.inr (hw _ (List.mem_of_getElem? (i := 27) rfl))) (by decide) (t := .int) (t' := .int) (by decide) (by decide)))
    have K104 := K89.wr W92 (Or.inl (List.mem_of_getElem? (i := 0) rfl))
    have N105 := Fr.snoc X92 N90 g0
    have Z106 : n0 ≤ h92.size := Nat.le_trans Z91 (Keep.of_wr W92).1
    show own_Goes p e below s (own_F1 Z x0 x1 x2 x3 x4 x5 x6 x7 x8 x9 x10 n0 h0) 0 0 (T92.setTop (mkF m 43 #[.val (.ref x0), .val (.int x1), .val (.int x2), .val (.int x3), .val (.int x4), .val (.int x5), .val (.int x6), .val (.int x7), .val (.int x8), .val (.int x9), .val (.int x10)] []))
    refine own_Goes.step (fun t k => XS.aloadN X92.here hx rfl (hb hby d1_43) rfl rfl k) ?_
    show own_Goes p e below s (own_F1 Z x0 x1 x2 x3 x4 x5 x6 x7 x8 x9 x10 n0 h0) 0 0 (T92.setTop (mkF m 44 #[.val (.ref x0), .val (.int x1), .val (.int x2), .val (.int x3), .val (.int x4), .val (.int x5), .val (.int x6), .val (.int x7), .val (.int x8), .val (.int x9), .val (.int x10)] [(.ref x0)]))
    refine own_Goes.step (fun t k => XS.iload X92.here hx rfl (hb hby d1_44) rfl k) ?_
    show own_Goes p e below s (own_F1 Z x0 x1 x2 x3 x4 x5 x6 x7 x8 x9 x10 n0 h0) 0 0 (T92.setTop (mkF m 46 #[.val (.ref x0), .val (.int x1), .val (.int x2), .val (.int x3), .val (.int x4), .val (.int x5), .val (.int x6), .val (.int x7), .val (.int x8), .val (.int x9), .val (.int x10)] [(.int x8), (.ref x0)]))
    obtain ⟨T107, h107, X107, e107, W107, st107⟩ := putF X92 hx hZ hown (host := "") (Or.inl (hw _ (List.mem_of_getElem? (i := 28) rfl))) Via.refl e92 (v := (.int x8)) f101 f93 (Or.inr ⟨(hw _ (List.mem_of_getElem? (i := 29) rfl)), rfl, hnm⟩) (hw _ (List.mem_of_getElem? (i := 1) rfl)) (ty := .int) (by decide) rfl rfl (g := (mkF m 46 #[.val (.ref x0), .val (.int x1), .val (.int x2), .val (.int x3), .val (.int x4), .val (.int x5), .val (.int x6), .val (.int x7), .val (.int x8), .val (.int x9), .val (.int x10)] [(.int x8), (.ref x0)])) rfl rfl (hb hby d1_46)
    refine own_Goes.step st107 ?_
    have f108 := f93.wr W107
    have f109 := f94.other W107 (Or.inr (slot_ne (Or.inr (hw _ (List.mem_of_getElem? (i := 15) rfl))) (Or.inr (hw _ (List.mem_of_getElem? (i := 29) rfl))) (by decide) (t := .int) (t' := .int) (by decide) (by decide)))
    have f110 := f95.other W107 (Or.inr (slot_ne (Or.inr (hw _ (List.mem_of_getElem? (i := 17) rfl))) (Or.inr (hw _ (List.mem_of_getElem? (i := 29) rfl))) (by decide) (t := .int) (t' := .int) (by decide) (by decide)))
    have f111 := f96.other W107 (Or.inr (slot_ne (Or.inr (hw _ (List.mem_of_getElem? (i := 19) rfl))) (Or.inr (hw _ (List.mem_of_getElem? (i := 29) rfl))) (by decide) (t := .int) (t' := .int) (by decide) (by decide)))
    have f112 := f97.other W107 (Or.inr (slot_ne (Or.inr (hw _ (List.mem_of_getElem? (i := 21) rfl))) (Or.inr (hw _ (List.mem_of_getElem? (i := 29) rfl))) (by decide) (t := .int) (t' := .int) (by decide) (by decide)))
    have f113 := f98.other W107 (Or.inr (slot_ne (Or.inr (hw _ (List.mem_of_getElem? (i := 23) rfl))) (Or.inr (hw _ (List.mem_of_getElem? (i := 29) rfl))) (by decide) (t := .int) (t' := .int) (by decide) (by decide)))
    have f114 := f99.other W107 (Or.inr (slot_ne (Or.inr (hw _ (List.mem_of_getElem? (i := 25) rfl))) (Or.inr (hw _ (List.mem_of_getElem? (i := 29) rfl))) (by decide) (t := .int) (t' := .int) (by decide) (by decide)))
    have f115 := f100.other W107 (Or.inr (slot_ne (Or.inr (hw _ (List.mem_of_getElem? (i := 27) rfl))) (Or.inr (hw _ (List.mem_of_getElem? (i := 29) rfl))) (by decide) (t := .int) (t' := .int) (by decide) (by decide)))
    have f116 := f101.same W107
    have f117 := f102.other W107 (Or.inr (slot_ne (Or.inr (hw _ (List.mem_of_getElem? (i := 31) rfl))) (Or.inr (hw _ (List.mem_of_getElem? (i := 29) rfl))) (by decide) (t := .int) (t' := .int) (by decide) (by decide)))
    have f118 := f103.other W107 (Or.inr (slot_ne (Or.inr (hw _ (List.mem_of_getElem? (i := 33) rfl))) (Or.inr (hw _ (List.mem_of_getElem? (i := 29) rfl))) (by decide) (t := .int) (t' := .int) (by decide) (by decide)))
    have K119 := K104.wr W107 (Or.inl (List.mem_of_getElem? (i := 0) rfl))
    have N120 := Fr.snoc X107 N105 g0
    have Z121 : n0 ≤ h107.size := Nat.le_trans Z106 (Keep.of_wr W107).1
    show own_Goes p e below s (own_F1 Z x0 x1 x2 x3 x4 x5 x6 x7 x8 x9 x10 n0 h0) 0 0 (T107.setTop (mkF m 49 #[.val (.ref x0), .val (.int x1), .val (.int x2), .val (.int x3), .val (.int x4), .val (.int x5), .val (.int x6), .val (.int x7), .val (.int x8), .val (.int x9), .val (.int x10)] []))
    refine own_Goes.step (fun t k => XS.aloadN X107.here hx rfl (hb hby d1_49) rfl rfl k) ?_
    show own_Goes p e below s (own_F1 Z x0 x1 x2 x3 x4 x5 x6 x7 x8 x9 x10 n0 h0) 0 0 (T107.setTop (mkF m 50 #[.val (.ref x0), .val (.int x1), .val (.int x2), .val (.int x3), .val (.int x4), .val (.int x5), .val (.int x6), .val (.int x7), .val (.int x8), .val (.int x9), .val (.int x10)] [(.ref x0)]))
    refine own_Goes.step (fun t k => XS.iload X107.here hx rfl (hb hby d1_50) rfl k) ?_
    show own_Goes p e below s (own_F1 Z x0 x1 x2 x3 x4 x5 x6 x7 x8 x9 x10 n0 h0) 0 0 (T107.setTop (mkF m 52 #[.val (.ref x0), .val (.int x1), .val (.int x2), .val (.int x3), .val (.int x4), .val (.int x5), .val (.int x6), .val (.int x7), .val (.int x8), .val (.int x9), .val (.int x10)] [(.int x9), (.ref x0)]))
    obtain ⟨T122, h122, X122, e122, W122, st122⟩ := putF X107 hx hZ hown (host := "") (Or.inl (hw _ (List.mem_of_getElem? (i := 30) rfl))) Via.refl e107 (v := (.int x9)) f117 f108 (Or.inr ⟨(hw _ (List.mem_of_getElem? (i := 31) rfl)), rfl, hnm⟩) (hw _ (List.mem_of_getElem? (i := 1) rfl)) (ty := .int) (by decide) rfl rfl (g := (mkF m 52 #[.val (.ref x0), .val (.int x1), .val (.int x2), .val (.int x3), .val (.int x4), .val (.int x5), .val (.int x6), .val (.int x7), .val (.int x8), .val (.int x9), .val (.int x10)] [(.int x9), (.ref x0)])) rfl rfl (hb hby d1_52)
    refine own_Goes.step st122 ?_
    have f123 := f108.wr W122
    have f124 := f109.other W122 (Or.inr (slot_ne (Or.inr (hw _ (List.mem_of_getElem? (i := 15) rfl))) (Or.inr (hw _ (List.mem_of_getElem? (i := 31) rfl))) (by decide) (t := .int) (t' := .int) (by decide) (by decide)))
    have f125 := f110.other W122 (Or.inr (slot_ne (Or.inr (hw _ (List.mem_of_getElem? (i := 17) rfl))) (Or.inr (hw _ (List.mem_of_getElem? (i := 31) rfl))) (by decide) (t := .int) (t' := .int) (by decide) (by decide)))
    have f126 := f111.other W122 (Or.inr (slot_ne (Or.inr (hw _ (List.mem_of_getElem? (i := 19) rfl))) (Or.inr (hw _ (List.mem_of_getElem? (i := 31) rfl))) (by decide) (t := .int) (t' := .int) (by decide) (by decide)))
    have f127 := f112.other W122 (Or.inr (slot_ne (Or.inr (hw _ (List.mem_of_getElem? (i := 21) rfl))) (Or.inr (hw _ (List.mem_of_getElem? (i := 31) rfl))) (by decide) (t := .int) (t' := .int) (by decide) (by decide)))
    have f128 := f113.other W122 (Or.inr (slot_ne (Or.inr (hw _ (List.mem_of_getElem? (i := 23) rfl))) (Or.inr (hw _ (List.mem_of_getElem? (i := 31) rfl))) (by decide) (t := .int) (t' := .int) (by decide) (by decide)))
    have f129 := f114.other W122 (Or.inr (slot_ne (Or.inr (hw _ (List.mem_of_getElem? (i := 25) rfl))) (Or.inr (hw _ (List.mem_of_getElem? (i := 31) rfl))) (by decide) (t := .int) (t' := .int) (by decide) (by decide)))
    have f130 := f115.other W122 (Or.inr (slot_ne (Or.inr (hw _ (List.mem_of_getElem? (i := 27) rfl))) (Or.inr (hw _ (List.mem_of_getElem? (i := 31) rfl))) (by decide) (t := .int) (t' := .int) (by decide) (by decide)))
    have f131 := f116.other W122 (Or.inr (slot_ne (Or.inr (hw _ (List.mem_of_getElem? (i := 29) rfl))) (Or.inr (hw _ (List.mem_of_getElem? (i := 31) rfl))) (by decide) (t := .int) (t' := .int) (by decide) (by decide)))
    have f132 := f117.same W122
    have f133 := f118.other W122 (Or.inr (slot_ne (Or.inr (hw _ (List.mem_of_getElem? (i := 33) rfl))) (Or.inr (hw _ (List.mem_of_getElem? (i := 31) rfl))) (by decide) (t := .int) (t' := .int) (by decide) (by decide)))
    have K134 := K119.wr W122 (Or.inl (List.mem_of_getElem? (i := 0) rfl))
    have N135 := Fr.snoc X122 N120 g0
    have Z136 : n0 ≤ h122.size := Nat.le_trans Z121 (Keep.of_wr W122).1
    show own_Goes p e below s (own_F1 Z x0 x1 x2 x3 x4 x5 x6 x7 x8 x9 x10 n0 h0) 0 0 (T122.setTop (mkF m 55 #[.val (.ref x0), .val (.int x1), .val (.int x2), .val (.int x3), .val (.int x4), .val (.int x5), .val (.int x6), .val (.int x7), .val (.int x8), .val (.int x9), .val (.int x10)] []))
    refine own_Goes.step (fun t k => XS.aloadN X122.here hx rfl (hb hby d1_55) rfl rfl k) ?_
    show own_Goes p e below s (own_F1 Z x0 x1 x2 x3 x4 x5 x6 x7 x8 x9 x10 n0 h0) 0 0 (T122.setTop (mkF m 56 #[.val (.ref x0), .val (.int x1), .val (.int x2), .val (.int x3), .val (.int x4), .val (.int x5), .val (.int x6), .val (.int x7), .val (.int x8), .val (.int x9), .val (.int x10)] [(.ref x0)]))
    refine own_Goes.step (fun t k => XS.iload X122.here hx rfl (hb hby d1_56) rfl k) ?_
    show own_Goes p e below s (own_F1 Z x0 x1 x2 x3 x4 x5 x6 x7 x8 x9 x10 n0 h0) 0 0 (T122.setTop (mkF m 58 #[.val (.ref x0), .val (.int x1), .val (.int x2), .val (.int x3), .val (.int x4), .val (.int x5), .val (.int x6), .val (.int x7), .val (.int x8), .val (.int x9), .val (.int x10)] [(.int x10), (.ref x0)]))
    obtain ⟨T137, h137, X137, e137, W137, st137⟩ := putF X122 hx hZ hown (host := "") (Or.inl (hw _ (List.mem_of_getElem? (i := 32) rfl))) Via.refl e122 (v := (.int x10)) f133 f123 (Or.inr ⟨(hw _ (List.mem_of_getElem? (i := 33) rfl)), rfl, hnm⟩) (hw _ (List.mem_of_getElem? (i := 1) rfl)) (ty := .int) (by decide) rfl rfl (g := (mkF m 58 #[.val (.ref x0), .val (.int x1), .val (.int x2), .val (.int x3), .val (.int x4), .val (.int x5), .val (.int x6), .val (.int x7), .val (.int x8), .val (.int x9), .val (.int x10)] [(.int x10), (.ref x0)])) rfl rfl (hb hby d1_58)
    refine own_Goes.step st137 ?_
    have f138 := f123.wr W137
    have f139 := f124.other W137 (Or.inr (slot_ne (Or.inr (hw _ (List.mem_of_getElem? (i := 15) rfl))) (Or.inr (hw _ (List.mem_of_getElem? (i := 33) rfl))) (by decide) (t := .int) (t' := .int) (by decide) (by decide)))
    have f140 := f125.other W137 (Or.inr (slot_ne (Or.inr (hw _ (List.mem_of_getElem? (i := 17) rfl))) (Or.inr (hw _ (List.mem_of_getElem? (i := 33) rfl))) (by decide) (t := .int) (t' := .int) (by decide) (by decide)))
    have f141 := f126.other W137 (Or.inr (slot_ne (Or.inr (hw _ (List.mem_of_getElem? (i := 19) rfl))) (Or.inr (hw _ (List.mem_of_getElem? (i := 33) rfl))) (by decide) (t := .int) (t' := .int) (by decide) (by decide)))
    have f142 := f127.other W137 (Or.inr (slot_ne (Or.inr (hw _ (List.mem_of_getElem? (i := 21) rfl))) (Or.inr (hw _ (List.mem_of_getElem? (i := 33) rfl))) (by decide) (t := .int) (t' := .int) (by decide) (by decide)))
    have f143 := f128.other W137 (Or.inr (slot_ne (Or.inr (hw _ (List.mem_of_getElem? (i := 23) rfl))) (Or.inr (hw _ (List.mem_of_getElem? (i := 33) rfl))) (by decide) (t := .int) (t' := .int) (by decide) (by decide)))
    have f144 := f129.other W137 (Or.inr (slot_ne (Or.inr (hw _ (List.mem_of_getElem? (i := 25) rfl))) (Or.inr (hw _ (List.mem_of_getElem? (i := 33) rfl))) (by decide) (t := .int) (t' := .int) (by decide) (by decide)))
    have f145 := f130.other W137 (Or.inr (slot_ne (Or.inr (hw _ (List.mem_of_getElem? (i := 27) rfl))) (Or.inr (hw _ (List.mem_of_getElem? (i := 33) rfl))) (by decide) (t := .int) (t' := .int) (by decide) (by decide)))
    have f146 := f131.other W137 (Or.inr (slot_ne (Or.inr (hw _ (List.mem_of_getElem? (i := 29) rfl))) (Or.inr (hw _ (List.mem_of_getElem? (i := 33) rfl))) (by decide) (t := .int) (t' := .int) (by decide) (by decide)))
    have f147 := f132.other W137 (Or.inr (slot_ne (Or.inr (hw _ (List.mem_of_getElem? (i := 31) rfl))) (Or.inr (hw _ (List.mem_of_getElem? (i := 33) rfl))) (by decide) (t := .int) (t' := .int) (by decide) (by decide)))
    have f148 := f133.same W137
    have K149 := K134.wr W137 (Or.inl (List.mem_of_getElem? (i := 0) rfl))
    have N150 := Fr.snoc X137 N135 g0
    have Z151 : n0 ≤ h137.size := Nat.le_trans Z136 (Keep.of_wr W137).1
    show own_Goes p e below s (own_F1 Z x0 x1 x2 x3 x4 x5 x6 x7 x8 x9 x10 n0 h0) 0 0 (T137.setTop (mkF m 61 #[.val (.ref x0), .val (.int x1), .val (.int x2), .val (.int x3), .val (.int x4), .val (.int x5), .val (.int x6), .val (.int x7), .val (.int x8), .val (.int x9), .val (.int x10)] []))
    refine own_endV X137 hx Bd.notSynchronized Bd.returns (hb hby d1_61) ?_ (by decide) (by decide)
    show own_F1 Z x0 x1 x2 x3 x4 x5 x6 x7 x8 x9 x10 n0 h0 _ T137.heap _
    rw [e137]
    exact ⟨rfl, N150, K149, f138, f139, f140, f141, f142, f143, f144, f145, f146, f147, f148⟩
  obtain ⟨t2, o2, q1, q2, q3, q4⟩ := hgo
  exact ⟨t2, o2, castTop (ef_1 m x0 x1 x2 x3 x4 x5 x6 x7 x8 x9 x10) q1, q2, q3, q4⟩
theorem pn_0 : plainName "com/example/keystead/keystead/GeometryIsDefaultPinLaw" = true := by first | (simp [plainName, overriddenIn]; done) | decide +kernel
theorem pd_0 : parseMethodDescriptor "(IIII)Z" = some ⟨[.int, .int, .int, .int], (some .boolean)⟩ := by decide +kernel
theorem ef_0 (m : MethodId) (x0 : Int32) (x1 : Int32) (x2 : Int32) (x3 : Int32) : entryFrame m #[(.int x0), (.int x1), (.int x2), (.int x3)] maxLocals = mkF m 0 #[.val (.int x0), .val (.int x1), .val (.int x2), .val (.int x3), .unset, .unset, .unset] [] := by first | (simp [entryFrame, mkF, argsToLocals, Value.category, maxLocals]; done) | rfl
def own_f0_1 (x0 : Int32) (x1 : Int32) (x2 : Int32) (x3 : Int32) : Int32 := (own_f4 (x0 ^^^ x2) (x1 ^^^ x3) (own_f1_defaultKeySize (1 : Int32) (8 : Int32) (1 : Int32) (1 : Int32) (0 : Int32) (8 : Int32) (4 : Int32) x0 x1 (0 : Int32)) (own_f1_defaultValueSize (1 : Int32) (8 : Int32) (1 : Int32) (1 : Int32) (0 : Int32) (8 : Int32) (4 : Int32) x0 x1 (0 : Int32)))
def own_f0_2 (x0 : Int32) (x1 : Int32) (x2 : Int32) (x3 : Int32) : Int32 := (if x2 = (0 : Int32) then (if x3 = (0 : Int32) then (1 : Int32) else (0 : Int32)) else (0 : Int32))
def own_f0 (x0 : Int32) (x1 : Int32) (x2 : Int32) (x3 : Int32) : Int32 := (if (own_f0_1 x0 x1 x2 x3) = (own_f0_2 x0 x1 x2 x3) then (1 : Int32) else (0 : Int32))
def own_F0 (Z : State) (x0 : Int32) (x1 : Int32) (x2 : Int32) (x3 : Int32)  (n0 : Nat) (h0 : Heap) (v : Option Value) (h : Heap) (L : List Loc) : Prop := v = some (.int (own_f0 x0 x1 x2 x3)) ∧ Fr n0 L
set_option maxRecDepth 65536 in
set_option maxHeartbeats 40000000 in
theorem own_m0 (l : Launch) (Z : State) (a0 : Array Value) (hw : ∀ d ∈ tables_1, d.before a0 Z = true) (ws : List Jvm.Cond) (x0 : Int32) (x1 : Int32) (x2 : Int32) (x3 : Int32)  (n0 : Nat) (h0 : Heap) (Z0 : n0 ≤ h0.size)   :
    MetFree l x (head1 (Jvm.Cond.code x code maxLocals ret :: ws) room_1) (fun a U => a = #[(.int x0), (.int x1), (.int x2), (.int x3)] ∧ Z.Warmed39 U.vm ∧ U.heap = h0) (fun _ _ _ _ _ => True) (fun _ U o U' => ∃ v L, o = .returned v ∧ own_F0 Z x0 x1 x2 x3 n0 h0 v U'.heap L ∧ FrameEnd U o U' L room_1.cells room_1.slots) := by
  refine MetFree.of_bodySF (plainFor_of_name pn_0) hisR ?_
  intro p e s m args below meth c s₁ Bd hml0 hP hK
  obtain ⟨rfl, hZ, hh⟩ := hP
  have hx := Bd.exec
  have hby := Bd.bytes
  have hml : c.maxLocals = 7 := hml0
  have hown : s.vm.findClass "com/example/keystead/keystead/GeometryIsDefaultPinLaw" = some m.cls := findClass_of_methodNamed Bd.named
  have hnm := (name_of_methodNamed Bd.named Bd.method).1
  have X0 : Stand p l e room_1 s m #[(.int x0), (.int x1), (.int x2), (.int x3)] below meth c s₁ [] 0 0 := Stand.of_body Bd
  have e0 : s₁.heap = h0 := by rw [← hh, Bd.state]; rfl
  have N0 := Fr.nil n0
  have K0 : Keep h0 h0 [] := Keep.refl h0 []
  have hgo : own_Goes p e below s (own_F0 Z x0 x1 x2 x3 n0 h0) room_1.cells room_1.slots (s₁.setTop (mkF m 0 #[.val (.int x0), .val (.int x1), .val (.int x2), .val (.int x3), .unset, .unset, .unset] [])) := by
    obtain ⟨T1, h1, X1, e1, E1, A1, D1, -, st1⟩ := newO X0 hx hZ hown (hw _ (List.mem_of_getElem? (i := 0) rfl)) (hw _ (List.mem_of_getElem? (i := 1) rfl)) (hw _ (List.mem_of_getElem? (i := 2) rfl)) e0 (g := (mkF m 0 #[.val (.int x0), .val (.int x1), .val (.int x2), .val (.int x3), .unset, .unset, .unset] [])) rfl (hb hby at_0) (by decide) (by decide)
    obtain ⟨a1, g1⟩ : ∃ z, z = h0.size := ⟨_, rfl⟩
    rw [← g1] at A1 D1 st1
    have f2 : Fld Z h1 a1 "com/example/keystead/keystead/Geometry" "segments" "I" (.int (0 : Int32)) := D1 (Or.inr (hw _ (List.mem_of_getElem? (i := 15) rfl))) (ty := .int) (by decide)
    have f3 : Fld Z h1 a1 "com/example/keystead/keystead/Geometry" "slotsPerTier" "I" (.int (0 : Int32)) := D1 (Or.inr (hw _ (List.mem_of_getElem? (i := 17) rfl))) (ty := .int) (by decide)
    have f4 : Fld Z h1 a1 "com/example/keystead/keystead/Geometry" "chunkSize" "I" (.int (0 : Int32)) := D1 (Or.inr (hw _ (List.mem_of_getElem? (i := 19) rfl))) (ty := .int) (by decide)
    have f5 : Fld Z h1 a1 "com/example/keystead/keystead/Geometry" "chunksPerTier" "I" (.int (0 : Int32)) := D1 (Or.inr (hw _ (List.mem_of_getElem? (i := 21) rfl))) (ty := .int) (by decide)
    have f6 : Fld Z h1 a1 "com/example/keystead/keystead/Geometry" "extraTiers" "I" (.int (0 : Int32)) := D1 (Or.inr (hw _ (List.mem_of_getElem? (i := 23) rfl))) (ty := .int) (by decide)
    have f7 : Fld Z h1 a1 "com/example/keystead/keystead/Geometry" "slotBytes" "I" (.int (0 : Int32)) := D1 (Or.inr (hw _ (List.mem_of_getElem? (i := 25) rfl))) (ty := .int) (by decide)
    have f8 : Fld Z h1 a1 "com/example/keystead/keystead/Geometry" "checkBytes" "I" (.int (0 : Int32)) := D1 (Or.inr (hw _ (List.mem_of_getElem? (i := 27) rfl))) (ty := .int) (by decide)
    have f9 : Fld Z h1 a1 "com/example/keystead/keystead/Geometry" "defaultKeySize" "I" (.int (0 : Int32)) := D1 (Or.inr (hw _ (List.mem_of_getElem? (i := 29) rfl))) (ty := .int) (by decide)
    have f10 : Fld Z h1 a1 "com/example/keystead/keystead/Geometry" "defaultValueSize" "I" (.int (0 : Int32)) := D1 (Or.inr (hw _ (List.mem_of_getElem? (i := 31) rfl))) (ty := .int) (by decide)
    have f11 : Fld Z h1 a1 "com/example/keystead/keystead/Geometry" "sizeForm" "I" (.int (0 : Int32)) := D1 (Or.inr (hw _ (List.mem_of_getElem? (i := 33) rfl))) (ty := .int) (by decide)
    have ga1 : n0 ≤ a1 := Nat.le_trans Z0 (Nat.le_of_eq g1.symm)
    have Z1 : n0 ≤ h1.size := Nat.le_trans Z0 E1.1
    have K1 := K0.ext E1
    have Kh1 : h0.size ≤ a1 := Nat.le_trans K0.1 (Nat.le_of_eq g1.symm)
    refine own_Goes.step st1 ?_
    show own_Goes p e below s (own_F0 Z x0 x1 x2 x3 n0 h0) room_1.cells room_1.slots (T1.setTop (mkF m 3 #[.val (.int x0), .val (.int x1), .val (.int x2), .val (.int x3), .unset, .unset, .unset] [(.ref a1)]))
    refine own_Goes.step (fun t k => XS.dup X1.here hx rfl (hb hby at_3) rfl rfl k) ?_
    show own_Goes p e below s (own_F0 Z x0 x1 x2 x3 n0 h0) room_1.cells room_1.slots (T1.setTop (mkF m 4 #[.val (.int x0), .val (.int x1), .val (.int x2), .val (.int x3), .unset, .unset, .unset] [(.ref a1), (.ref a1)]))
    refine own_Goes.step (fun t k => XT.iconstV X1.here hx rfl (1 : Int32) (hb hby at_4) (by decide) k) ?_
    show own_Goes p e below s (own_F0 Z x0 x1 x2 x3 n0 h0) room_1.cells room_1.slots (T1.setTop (mkF m 5 #[.val (.int x0), .val (.int x1), .val (.int x2), .val (.int x3), .unset, .unset, .unset] [(.int (1 : Int32)), (.ref a1), (.ref a1)]))
    refine own_Goes.step (fun t k => XT.bipushV X1.here hx rfl (8 : Int32) (hb hby at_5) (by decide) k) ?_
    show own_Goes p e below s (own_F0 Z x0 x1 x2 x3 n0 h0) room_1.cells room_1.slots (T1.setTop (mkF m 7 #[.val (.int x0), .val (.int x1), .val (.int x2), .val (.int x3), .unset, .unset, .unset] [(.int (8 : Int32)), (.int (1 : Int32)), (.ref a1), (.ref a1)]))
    refine own_Goes.step (fun t k => XT.iconstV X1.here hx rfl (1 : Int32) (hb hby at_7) (by decide) k) ?_
    show own_Goes p e below s (own_F0 Z x0 x1 x2 x3 n0 h0) room_1.cells room_1.slots (T1.setTop (mkF m 8 #[.val (.int x0), .val (.int x1), .val (.int x2), .val (.int x3), .unset, .unset, .unset] [(.int (1 : Int32)), (.int (8 : Int32)), (.int (1 : Int32)), (.ref a1), (.ref a1)]))
    refine own_Goes.step (fun t k => XT.iconstV X1.here hx rfl (1 : Int32) (hb hby at_8) (by decide) k) ?_
    show own_Goes p e below s (own_F0 Z x0 x1 x2 x3 n0 h0) room_1.cells room_1.slots (T1.setTop (mkF m 9 #[.val (.int x0), .val (.int x1), .val (.int x2), .val (.int x3), .unset, .unset, .unset] [(.int (1 : Int32)), (.int (1 : Int32)), (.int (8 : Int32)), (.int (1 : Int32)), (.ref a1), (.ref a1)]))
    refine own_Goes.step (fun t k => XT.iconstV X1.here hx rfl (0 : Int32) (hb hby at_9) (by decide) k) ?_
    show own_Goes p e below s (own_F0 Z x0 x1 x2 x3 n0 h0) room_1.cells room_1.slots (T1.setTop (mkF m 10 #[.val (.int x0), .val (.int x1), .val (.int x2), .val (.int x3), .unset, .unset, .unset] [(.int (0 : Int32)), (.int (1 : Int32)), (.int (1 : Int32)), (.int (8 : Int32)), (.int (1 : Int32)), (.ref a1), (.ref a1)]))
    refine own_Goes.step (fun t k => XT.bipushV X1.here hx rfl (8 : Int32) (hb hby at_10) (by decide) k) ?_
    show own_Goes p e below s (own_F0 Z x0 x1 x2 x3 n0 h0) room_1.cells room_1.slots (T1.setTop (mkF m 12 #[.val (.int x0), .val (.int x1), .val (.int x2), .val (.int x3), .unset, .unset, .unset] [(.int (8 : Int32)), (.int (0 : Int32)), (.int (1 : Int32)), (.int (1 : Int32)), (.int (8 : Int32)), (.int (1 : Int32)), (.ref a1), (.ref a1)]))
    refine own_Goes.step (fun t k => XT.iconstV X1.here hx rfl (4 : Int32) (hb hby at_12) (by decide) k) ?_
    show own_Goes p e below s (own_F0 Z x0 x1 x2 x3 n0 h0) room_1.cells room_1.slots (T1.setTop (mkF m 13 #[.val (.int x0), .val (.int x1), .val (.int x2), .val (.int x3), .unset, .unset, .unset] [(.int (4 : Int32)), (.int (8 : Int32)), (.int (0 : Int32)), (.int (1 : Int32)), (.int (1 : Int32)), (.int (8 : Int32)), (.int (1 : Int32)), (.ref a1), (.ref a1)]))
    refine own_Goes.step (fun t k => XS.iloadN X1.here hx rfl (hb hby at_13) rfl k) ?_
    show own_Goes p e below s (own_F0 Z x0 x1 x2 x3 n0 h0) room_1.cells room_1.slots (T1.setTop (mkF m 14 #[.val (.int x0), .val (.int x1), .val (.int x2), .val (.int x3), .unset, .unset, .unset] [(.int x0), (.int (4 : Int32)), (.int (8 : Int32)), (.int (0 : Int32)), (.int (1 : Int32)), (.int (1 : Int32)), (.int (8 : Int32)), (.int (1 : Int32)), (.ref a1), (.ref a1)]))
    refine own_Goes.step (fun t k => XS.iloadN X1.here hx rfl (hb hby at_14) rfl k) ?_
    show own_Goes p e below s (own_F0 Z x0 x1 x2 x3 n0 h0) room_1.cells room_1.slots (T1.setTop (mkF m 15 #[.val (.int x0), .val (.int x1), .val (.int x2), .val (.int x3), .unset, .unset, .unset] [(.int x1), (.int x0), (.int (4 : Int32)), (.int (8 : Int32)), (.int (0 : Int32)), (.int (1 : Int32)), (.int (1 : Int32)), (.int (8 : Int32)), (.int (1 : Int32)), (.ref a1), (.ref a1)]))
    refine own_Goes.step (fun t k => XT.iconstV X1.here hx rfl (0 : Int32) (hb hby at_15) (by decide) k) ?_
    show own_Goes p e below s (own_F0 Z x0 x1 x2 x3 n0 h0) room_1.cells room_1.slots (T1.setTop (mkF m 16 #[.val (.int x0), .val (.int x1), .val (.int x2), .val (.int x3), .unset, .unset, .unset] [(.int (0 : Int32)), (.int x1), (.int x0), (.int (4 : Int32)), (.int (8 : Int32)), (.int (0 : Int32)), (.int (1 : Int32)), (.int (1 : Int32)), (.int (8 : Int32)), (.int (1 : Int32)), (.ref a1), (.ref a1)]))
    obtain ⟨w13, T13, L13, q13, Y13, st13⟩ := own_spec X1 hx hZ e1 rfl hown (hw _ (List.mem_of_getElem? (i := 3) rfl)) (hw _ (List.mem_of_getElem? (i := 4) rfl)) (hw _ (List.mem_of_getElem? (i := 2) rfl)) (hw _ (List.mem_of_getElem? (i := 5) rfl)) (by decide) (own_m1 l Z a0 hw [] a1 (1 : Int32) (8 : Int32) (1 : Int32) (1 : Int32) (0 : Int32) (8 : Int32) (4 : Int32) x0 x1 (0 : Int32) n0 h1 A1 ga1 f2 f3 f4 f5 f6 f7 f8 f9 f10 f11  ) (by decide) (W := 1) (by decide) (by decide) (by decide) (g := (mkF m 16 #[.val (.int x0), .val (.int x1), .val (.int x2), .val (.int x3), .unset, .unset, .unset] [(.int (0 : Int32)), (.int x1), (.int x0), (.int (4 : Int32)), (.int (8 : Int32)), (.int (0 : Int32)), (.int (1 : Int32)), (.int (1 : Int32)), (.int (8 : Int32)), (.int (1 : Int32)), (.ref a1), (.ref a1)])) rfl (by rw [hml]; rfl) (a := a1) (argsL := [(.int (1 : Int32)), (.int (8 : Int32)), (.int (1 : Int32)), (.int (1 : Int32)), (.int (0 : Int32)), (.int (8 : Int32)), (.int (4 : Int32)), (.int x0), (.int x1), (.int (0 : Int32))]) (rest := [(.ref a1)]) (lenOf pd_1 rfl) rfl (by show 2 * 0 + _ ≤ _; exact Nat.le_of_eq rfl) (hb hby at_16)
    obtain ⟨rfl, N13, K13, E13, c13_0, c13_1, c13_2, c13_3, c13_4, c13_5, c13_6, c13_7, c13_8, c13_9⟩ := q13
    have N25 := Fr.app N0 N13
    have Z26 : n0 ≤ T13.heap.size := Nat.le_trans Z1 K13.1
    have K27 := K1.trans K13 (own_kt (Or.inr Kh1))
    refine own_Goes.step st13 ?_
    show own_Goes p e below s (own_F0 Z x0 x1 x2 x3 n0 h0) room_1.cells room_1.slots (T13.setTop (mkF m 19 #[.val (.int x0), .val (.int x1), .val (.int x2), .val (.int x3), .unset, .unset, .unset] [(.ref a1)]))
    refine own_Goes.step (fun t k => XS.astore Y13.here hx rfl (hb hby at_19) rfl rfl (l' := #[.val (.int x0), .val (.int x1), .val (.int x2), .val (.int x3), .val (.ref a1), .unset, .unset]) rfl k) ?_
    show own_Goes p e below s (own_F0 Z x0 x1 x2 x3 n0 h0) room_1.cells room_1.slots (T13.setTop (mkF m 21 #[.val (.int x0), .val (.int x1), .val (.int x2), .val (.int x3), .val (.ref a1), .unset, .unset] []))
    refine own_Goes.step (fun t k => XS.aload Y13.here hx rfl (hb hby at_21) rfl rfl k) ?_
    show own_Goes p e below s (own_F0 Z x0 x1 x2 x3 n0 h0) room_1.cells room_1.slots (T13.setTop (mkF m 23 #[.val (.int x0), .val (.int x1), .val (.int x2), .val (.int x3), .val (.ref a1), .unset, .unset] [(.ref a1)]))
    refine own_Goes.step (fun t k => XS.iloadN Y13.here hx rfl (hb hby at_23) rfl k) ?_
    show own_Goes p e below s (own_F0 Z x0 x1 x2 x3 n0 h0) room_1.cells room_1.slots (T13.setTop (mkF m 24 #[.val (.int x0), .val (.int x1), .val (.int x2), .val (.int x3), .val (.ref a1), .unset, .unset] [(.int x0), (.ref a1)]))
    refine own_Goes.step (fun t k => XS.iloadN Y13.here hx rfl (hb hby at_24) rfl k) ?_
    show own_Goes p e below s (own_F0 Z x0 x1 x2 x3 n0 h0) room_1.cells room_1.slots (T13.setTop (mkF m 25 #[.val (.int x0), .val (.int x1), .val (.int x2), .val (.int x3), .val (.ref a1), .unset, .unset] [(.int x2), (.int x0), (.ref a1)]))
    refine own_Goes.step (fun t k => XT.ixor Y13.here hx rfl (hb hby at_25) rfl k) ?_
    show own_Goes p e below s (own_F0 Z x0 x1 x2 x3 n0 h0) room_1.cells room_1.slots (T13.setTop (mkF m 26 #[.val (.int x0), .val (.int x1), .val (.int x2), .val (.int x3), .val (.ref a1), .unset, .unset] [(.int (x0 ^^^ x2)), (.ref a1)]))
    refine own_Goes.step (fun t k => XS.iloadN Y13.here hx rfl (hb hby at_26) rfl k) ?_
    show own_Goes p e below s (own_F0 Z x0 x1 x2 x3 n0 h0) room_1.cells room_1.slots (T13.setTop (mkF m 27 #[.val (.int x0), .val (.int x1), .val (.int x2), .val (.int x3), .val (.ref a1), .unset, .unset] [(.int x1), (.int (x0 ^^^ x2)), (.ref a1)]))
    refine own_Goes.step (fun t k => XS.iloadN Y13.here hx rfl (hb hby at_27) rfl k) ?_
    show own_Goes p e below s (own_F0 Z x0 x1 x2 x3 n0 h0) room_1.cells room_1.slots (T13.setTop (mkF m 28 #[.val (.int x0), .val (.int x1), .val (.int x2), .val (.int x3), .val (.ref a1), .unset, .unset] [(.int x3), (.int x1), (.int (x0 ^^^ x2)), (.ref a1)]))
    refine own_Goes.step (fun t k => XT.ixor Y13.here hx rfl (hb hby at_28) rfl k) ?_
    show own_Goes p e below s (own_F0 Z x0 x1 x2 x3 n0 h0) room_1.cells room_1.slots (T13.setTop (mkF m 29 #[.val (.int x0), .val (.int x1), .val (.int x2), .val (.int x3), .val (.ref a1), .unset, .unset] [(.int (x1 ^^^ x3)), (.int (x0 ^^^ x2)), (.ref a1)]))
    obtain ⟨w28, T28, L28, q28, Y28, st28⟩ := own_virt Y13 hx hZ rfl E13 hown (hw _ (List.mem_of_getElem? (i := 34) rfl)) (hw _ (List.mem_of_getElem? (i := 35) rfl)) (hw _ (List.mem_of_getElem? (i := 37) rfl)) (hw _ (List.mem_of_getElem? (i := 36) rfl)) (hw _ (List.mem_of_getElem? (i := 2) rfl)) (hw _ (List.mem_of_getElem? (i := 38) rfl)) (by decide) (own_m4 l Z a0 hw [] a1 (x0 ^^^ x2) (x1 ^^^ x3) (own_f1_defaultKeySize (1 : Int32) (8 : Int32) (1 : Int32) (1 : Int32) (0 : Int32) (8 : Int32) (4 : Int32) x0 x1 (0 : Int32)) (own_f1_defaultValueSize (1 : Int32) (8 : Int32) (1 : Int32) (1 : Int32) (0 : Int32) (8 : Int32) (4 : Int32) x0 x1 (0 : Int32)) T13.heap c13_7 c13_8 ) (by decide) (W := 0) (by decide) (by decide) (by decide) (g := (mkF m 29 #[.val (.int x0), .val (.int x1), .val (.int x2), .val (.int x3), .val (.ref a1), .unset, .unset] [(.int (x1 ^^^ x3)), (.int (x0 ^^^ x2)), (.ref a1)])) rfl (by rw [hml]; rfl) (argsL := [(.int (x0 ^^^ x2)), (.int (x1 ^^^ x3))]) (rest := []) (lenOf pd_4 rfl) rfl (by show 2 * 0 + _ ≤ _; exact Nat.le_of_eq rfl) (hb hby at_29)
    obtain ⟨e28, X28⟩ := own_clean q28 Y28 rfl rfl
    obtain ⟨rfl, -, -⟩ := q28
    refine own_Goes.step st28 ?_
    show own_Goes p e below s (own_F0 Z x0 x1 x2 x3 n0 h0) room_1.cells room_1.slots (T28.setTop (mkF m 32 #[.val (.int x0), .val (.int x1), .val (.int x2), .val (.int x3), .val (.ref a1), .unset, .unset] [(.int (own_f4 (x0 ^^^ x2) (x1 ^^^ x3) (own_f1_defaultKeySize (1 : Int32) (8 : Int32) (1 : Int32) (1 : Int32) (0 : Int32) (8 : Int32) (4 : Int32) x0 x1 (0 : Int32)) (own_f1_defaultValueSize (1 : Int32) (8 : Int32) (1 : Int32) (1 : Int32) (0 : Int32) (8 : Int32) (4 : Int32) x0 x1 (0 : Int32))))]))
    refine own_Goes.step (fun t k => XS.istore X28.here hx rfl (hb hby at_32) rfl (l' := #[.val (.int x0), .val (.int x1), .val (.int x2), .val (.int x3), .val (.ref a1), .val (.int (own_f0_1 x0 x1 x2 x3)), .unset]) rfl k) ?_
    show own_Goes p e below s (own_F0 Z x0 x1 x2 x3 n0 h0) room_1.cells room_1.slots (T28.setTop (mkF m 34 #[.val (.int x0), .val (.int x1), .val (.int x2), .val (.int x3), .val (.ref a1), .val (.int (own_f0_1 x0 x1 x2 x3)), .unset] []))
    refine own_Goes.step (fun t k => XS.iloadN X28.here hx rfl (hb hby at_34) rfl k) ?_
    show own_Goes p e below s (own_F0 Z x0 x1 x2 x3 n0 h0) room_1.cells room_1.slots (T28.setTop (mkF m 35 #[.val (.int x0), .val (.int x1), .val (.int x2), .val (.int x3), .val (.ref a1), .val (.int (own_f0_1 x0 x1 x2 x3)), .unset] [(.int x2)]))
    have J32 : own_Goes p e below s (own_F0 Z x0 x1 x2 x3 n0 h0) room_1.cells room_1.slots (T28.setTop (mkF m 47 #[.val (.int x0), .val (.int x1), .val (.int x2), .val (.int x3), .val (.ref a1), .val (.int (own_f0_1 x0 x1 x2 x3)), .unset] [(.int (own_f0_2 x0 x1 x2 x3))])) := by
      refine own_Goes.step (fun t k => XS.istore X28.here hx rfl (hb hby at_47) rfl (l' := #[.val (.int x0), .val (.int x1), .val (.int x2), .val (.int x3), .val (.ref a1), .val (.int (own_f0_1 x0 x1 x2 x3)), .val (.int (own_f0_2 x0 x1 x2 x3))]) rfl k) ?_
      show own_Goes p e below s (own_F0 Z x0 x1 x2 x3 n0 h0) room_1.cells room_1.slots (T28.setTop (mkF m 49 #[.val (.int x0), .val (.int x1), .val (.int x2), .val (.int x3), .val (.ref a1), .val (.int (own_f0_1 x0 x1 x2 x3)), .val (.int (own_f0_2 x0 x1 x2 x3))] []))
      refine own_Goes.step (fun t k => XS.iload X28.here hx rfl (hb hby at_49) rfl k) ?_
      show own_Goes p e below s (own_F0 Z x0 x1 x2 x3 n0 h0) room_1.cells room_1.slots (T28.setTop (mkF m 51 #[.val (.int x0), .val (.int x1), .val (.int x2), .val (.int x3), .val (.ref a1), .val (.int (own_f0_1 x0 x1 x2 x3)), .val (.int (own_f0_2 x0 x1 x2 x3))] [(.int (own_f0_1 x0 x1 x2 x3))]))
      refine own_Goes.step (fun t k => XS.iload X28.here hx rfl (hb hby at_51) rfl k) ?_
      show own_Goes p e below s (own_F0 Z x0 x1 x2 x3 n0 h0) room_1.cells room_1.slots (T28.setTop (mkF m 53 #[.val (.int x0), .val (.int x1), .val (.int x2), .val (.int x3), .val (.ref a1), .val (.int (own_f0_1 x0 x1 x2 x3)), .val (.int (own_f0_2 x0 x1 x2 x3))] [(.int (own_f0_2 x0 x1 x2 x3)), (.int (own_f0_1 x0 x1 x2 x3))]))
      by_cases hc31 : (own_f0_1 x0 x1 x2 x3) = (own_f0_2 x0 x1 x2 x3)
      · refine own_Goes.step (fun t k => XS.icmpNo X28.here hx rfl (hb hby at_53) rfl (XT.ii_ne_f hc31) k) ?_
        show own_Goes p e below s (own_F0 Z x0 x1 x2 x3 n0 h0) room_1.cells room_1.slots (T28.setTop (mkF m 56 #[.val (.int x0), .val (.int x1), .val (.int x2), .val (.int x3), .val (.ref a1), .val (.int (own_f0_1 x0 x1 x2 x3)), .val (.int (own_f0_2 x0 x1 x2 x3))] []))
        refine own_Goes.step (fun t k => XT.iconstV X28.here hx rfl (1 : Int32) (hb hby at_56) (by decide) k) ?_
        show own_Goes p e below s (own_F0 Z x0 x1 x2 x3 n0 h0) room_1.cells room_1.slots (T28.setTop (mkF m 57 #[.val (.int x0), .val (.int x1), .val (.int x2), .val (.int x3), .val (.ref a1), .val (.int (own_f0_1 x0 x1 x2 x3)), .val (.int (own_f0_2 x0 x1 x2 x3))] [(.int (1 : Int32))]))
        refine own_Goes.step (fun t k => XS.goto X28.here hx rfl (pc0 := 57) (pc' := 61) rfl (hb hby at_57) (by decide) (by decide) k) ?_
        show own_Goes p e below s (own_F0 Z x0 x1 x2 x3 n0 h0) room_1.cells room_1.slots (T28.setTop (mkF m 61 #[.val (.int x0), .val (.int x1), .val (.int x2), .val (.int x3), .val (.ref a1), .val (.int (own_f0_1 x0 x1 x2 x3)), .val (.int (own_f0_2 x0 x1 x2 x3))] [(.int (1 : Int32))]))
        exact own_endN X28 hx Bd.notSynchronized (t := .boolean) Bd.returns (by simp) (hb hby at_61) ⟨(congrArg (fun z => some (Value.int z)) (show (1 : Int32) = own_f0 x0 x1 x2 x3 from by simp only [own_f0, if_pos hc31])), N25⟩ (by decide) (by decide)
      · refine own_Goes.step (fun t k => XS.icmpYes X28.here hx rfl (pc0 := 53) (pc' := 60) rfl (hb hby at_53) rfl (XT.ii_ne_t hc31) (by decide) (by decide) k) ?_
        show own_Goes p e below s (own_F0 Z x0 x1 x2 x3 n0 h0) room_1.cells room_1.slots (T28.setTop (mkF m 60 #[.val (.int x0), .val (.int x1), .val (.int x2), .val (.int x3), .val (.ref a1), .val (.int (own_f0_1 x0 x1 x2 x3)), .val (.int (own_f0_2 x0 x1 x2 x3))] []))
        refine own_Goes.step (fun t k => XT.iconstV X28.here hx rfl (0 : Int32) (hb hby at_60) (by decide) k) ?_
        show own_Goes p e below s (own_F0 Z x0 x1 x2 x3 n0 h0) room_1.cells room_1.slots (T28.setTop (mkF m 61 #[.val (.int x0), .val (.int x1), .val (.int x2), .val (.int x3), .val (.ref a1), .val (.int (own_f0_1 x0 x1 x2 x3)), .val (.int (own_f0_2 x0 x1 x2 x3))] [(.int (0 : Int32))]))
        exact own_endN X28 hx Bd.notSynchronized (t := .boolean) Bd.returns (by simp) (hb hby at_61) ⟨(congrArg (fun z => some (Value.int z)) (show (0 : Int32) = own_f0 x0 x1 x2 x3 from by simp only [own_f0, if_neg hc31])), N25⟩ (by decide) (by decide)
    by_cases hc29 : x2 = (0 : Int32)
    · refine own_Goes.step (fun t k => XS.ifNo X28.here hx rfl (hb hby at_35) rfl (XT.i0_ne_f hc29) k) ?_
      show own_Goes p e below s (own_F0 Z x0 x1 x2 x3 n0 h0) room_1.cells room_1.slots (T28.setTop (mkF m 38 #[.val (.int x0), .val (.int x1), .val (.int x2), .val (.int x3), .val (.ref a1), .val (.int (own_f0_1 x0 x1 x2 x3)), .unset] []))
      refine own_Goes.step (fun t k => XS.iloadN X28.here hx rfl (hb hby at_38) rfl k) ?_
      show own_Goes p e below s (own_F0 Z x0 x1 x2 x3 n0 h0) room_1.cells room_1.slots (T28.setTop (mkF m 39 #[.val (.int x0), .val (.int x1), .val (.int x2), .val (.int x3), .val (.ref a1), .val (.int (own_f0_1 x0 x1 x2 x3)), .unset] [(.int x3)]))
      by_cases hc30 : x3 = (0 : Int32)
      · refine own_Goes.step (fun t k => XS.ifNo X28.here hx rfl (hb hby at_39) rfl (XT.i0_ne_f hc30) k) ?_
        show own_Goes p e below s (own_F0 Z x0 x1 x2 x3 n0 h0) room_1.cells room_1.slots (T28.setTop (mkF m 42 #[.val (.int x0), .val (.int x1), .val (.int x2), .val (.int x3), .val (.ref a1), .val (.int (own_f0_1 x0 x1 x2 x3)), .unset] []))
        refine own_Goes.step (fun t k => XT.iconstV X28.here hx rfl (1 : Int32) (hb hby at_42) (by decide) k) ?_
        show own_Goes p e below s (own_F0 Z x0 x1 x2 x3 n0 h0) room_1.cells room_1.slots (T28.setTop (mkF m 43 #[.val (.int x0), .val (.int x1), .val (.int x2), .val (.int x3), .val (.ref a1), .val (.int (own_f0_1 x0 x1 x2 x3)), .unset] [(.int (1 : Int32))]))
        refine own_Goes.step (fun t k => XS.goto X28.here hx rfl (pc0 := 43) (pc' := 47) rfl (hb hby at_43) (by decide) (by decide) k) ?_
        show own_Goes p e below s (own_F0 Z x0 x1 x2 x3 n0 h0) room_1.cells room_1.slots (T28.setTop (mkF m 47 #[.val (.int x0), .val (.int x1), .val (.int x2), .val (.int x3), .val (.ref a1), .val (.int (own_f0_1 x0 x1 x2 x3)), .unset] [(.int (1 : Int32))]))
        rw [show (own_f0_2 x0 x1 x2 x3) = (1 : Int32) from by simp only [own_f0_2, if_pos hc29, if_pos hc30]] at J32
        exact J32
      · refine own_Goes.step (fun t k => XS.ifYes X28.here hx rfl (pc0 := 39) (pc' := 46) rfl (hb hby at_39) rfl (XT.i0_ne_t hc30) (by decide) (by decide) k) ?_
        show own_Goes p e below s (own_F0 Z x0 x1 x2 x3 n0 h0) room_1.cells room_1.slots (T28.setTop (mkF m 46 #[.val (.int x0), .val (.int x1), .val (.int x2), .val (.int x3), .val (.ref a1), .val (.int (own_f0_1 x0 x1 x2 x3)), .unset] []))
        refine own_Goes.step (fun t k => XT.iconstV X28.here hx rfl (0 : Int32) (hb hby at_46) (by decide) k) ?_
        show own_Goes p e below s (own_F0 Z x0 x1 x2 x3 n0 h0) room_1.cells room_1.slots (T28.setTop (mkF m 47 #[.val (.int x0), .val (.int x1), .val (.int x2), .val (.int x3), .val (.ref a1), .val (.int (own_f0_1 x0 x1 x2 x3)), .unset] [(.int (0 : Int32))]))
        rw [show (own_f0_2 x0 x1 x2 x3) = (0 : Int32) from by simp only [own_f0_2, if_pos hc29, if_neg hc30]] at J32
        exact J32
    · refine own_Goes.step (fun t k => XS.ifYes X28.here hx rfl (pc0 := 35) (pc' := 46) rfl (hb hby at_35) rfl (XT.i0_ne_t hc29) (by decide) (by decide) k) ?_
      show own_Goes p e below s (own_F0 Z x0 x1 x2 x3 n0 h0) room_1.cells room_1.slots (T28.setTop (mkF m 46 #[.val (.int x0), .val (.int x1), .val (.int x2), .val (.int x3), .val (.ref a1), .val (.int (own_f0_1 x0 x1 x2 x3)), .unset] []))
      refine own_Goes.step (fun t k => XT.iconstV X28.here hx rfl (0 : Int32) (hb hby at_46) (by decide) k) ?_
      show own_Goes p e below s (own_F0 Z x0 x1 x2 x3 n0 h0) room_1.cells room_1.slots (T28.setTop (mkF m 47 #[.val (.int x0), .val (.int x1), .val (.int x2), .val (.int x3), .val (.ref a1), .val (.int (own_f0_1 x0 x1 x2 x3)), .unset] [(.int (0 : Int32))]))
      rw [show (own_f0_2 x0 x1 x2 x3) = (0 : Int32) from by simp only [own_f0_2, if_neg hc29]] at J32
      exact J32
  obtain ⟨t2, o2, q1, q2, q3, q4⟩ := hgo
  exact ⟨t2, o2, castTop (ef_0 m x0 x1 x2 x3) q1, q2, q3, q4⟩
theorem own_xor (x a : Int32) : x ^^^ a = x ↔ a = 0 := by
  constructor
  · intro h
    have : x ^^^ (x ^^^ a) = x ^^^ x := by rw [h]
    rw [← Int32.xor_assoc, Int32.xor_self, Int32.zero_xor] at this
    exact this
  · intro h
    rw [h, Int32.xor_zero]
theorem own_law (x0 x1 x2 x3 : Int32) : own_f0 x0 x1 x2 x3 = 1 := by
  have key : own_f0_1 x0 x1 x2 x3 = own_f0_2 x0 x1 x2 x3 := by
    unfold own_f0_1 own_f0_2 own_f4 own_f1_defaultKeySize own_f1_defaultValueSize
    by_cases h1 : x2 = 0
    · rw [if_pos h1, if_pos ((own_xor x0 x2).mpr h1)]
      by_cases h2 : x3 = 0
      · rw [if_pos h2, if_pos ((own_xor x1 x3).mpr h2)]
      · rw [if_neg h2, if_neg (fun q => h2 ((own_xor x1 x3).mp q))]
    · rw [if_neg h1, if_neg (fun q => h1 ((own_xor x0 x2).mp q))]
  rw [own_f0, if_pos key]
set_option maxRecDepth 65536 in
set_option maxHeartbeats 40000000 in
theorem comes_1 {Post : Tables → Env → Array Value → State → Outcome → State → Prop} (hpost : ∀ tb e args s v u, (limb_1_1.after args s (.returned v) u = true ∧ limb_1_2.after args s (.returned v) u = true ∧ True) → FrameEnd s (.returned v) u (Jvm.fieldLocs frame_1_writes args s ++ Jvm.arrayLocs frame_1_arrays args s ++ Jvm.staticLocs frame_1_statics s) 16 128 → Post tb e args s (.returned v) u) :
    ArmFor flags0 classFile x code maxLocals ret World_1 tables_1 room_1 Calls_1 rest_1 Pre_1 Post := by
  intro l hfl _ _ p e ha hc hk s m args below hf hA hF happ hP
  obtain ⟨hcalls, hrest, hpre⟩ := hP
  obtain ⟨-, -, -, hnamed, -, -, -, hat⟩ := (Spec.applies_iff hf).mp happ
  obtain ⟨hg, hn⟩ := and_e (Cond.before_iff.mp (show (Jvm.Cond.and given_1 narrow_1).before args s = true from hpre))
  obtain ⟨hcount, hr0⟩ := and_e hg
  obtain ⟨w0, w1, w2, w3, rfl⟩ : ∃ w0 w1 w2 w3 : Value, args = #[w0, w1, w2, w3] := by
    have hs : args.size = 4 := by simpa [Cond.value, given_1] using hcount
    obtain ⟨L⟩ := args
    match L, hs with
    | [w0, w1, w2, w3], _ => exact ⟨w0, w1, w2, w3, rfl⟩
  have hw := fun d (hd : d ∈ tables_1) => atoms_spec (ws := Jvm.Cond.code x code maxLocals ret :: tables_1) hat d (List.mem_cons_of_mem _ hd)
  obtain ⟨ha0, hr1⟩ := and_e hr0
  obtain ⟨i0, ev0⟩ := is_v ha0
  obtain rfl : w0 = (.int i0) := Option.some.inj ev0
  obtain ⟨ha1, hr2⟩ := and_e hr1
  obtain ⟨i1, ev1⟩ := is_v ha1
  obtain rfl : w1 = (.int i1) := Option.some.inj ev1
  obtain ⟨ha2, hr3⟩ := and_e hr2
  obtain ⟨i2, ev2⟩ := is_v ha2
  obtain rfl : w2 = (.int i2) := Option.some.inj ev2
  obtain ⟨i3, ev3⟩ := is_v hr3
  obtain rfl : w3 = (.int i3) := Option.some.inj ev3
  obtain ⟨n, o, h1, h2, h3, _, L, rfl, ⟨rfl, N⟩, hq⟩ := own_m0 l s _ hw tables_1 i0 i1 i2 i3 s.heap.size s.heap (Nat.le_refl _) p e ha hc hk s m _ below hf ((Spec.applies_iff_loose hf).mp happ).1 ⟨rfl, State.Warmed39.refl s, rfl⟩ trivial
  rw [own_law i0 i1 i2 i3] at h3 hq
  refine ⟨n, _, h1, h2, h3, hpost _ _ _ _ _ _ ⟨Cond.after_iff.mpr rfl, Cond.after_iff.mpr (eq_i res_at (Term.int_eval (1)) rfl), trivial⟩ ⟨hq.1, hq.2.1, (hq.2.2.sift fun y hy => Or.inr (N y hy)).mono (by decide) (by decide)⟩⟩
theorem main_1_1 : Claimed_1_1 := comes_1 fun _ _ _ _ _ _ h hF => ⟨h.1, hF⟩
theorem main_1_2 : Claimed_1_2 := comes_1 fun _ _ _ _ _ _ h hF => ⟨h.2.1, hF⟩
end Jvm.Pilot.@@N@@
namespace Jvm.Pilot.@@N@@
open Jvm Jvm.ClassFile Sem Op Lib Jvm.Free Jvm.Stand Jvm.Pilot.@@N@@.Jvm.D
/-! MADE BY PROGRAM (witnessworld.py) out of the Statement's table words and the real class files: 10 classes; the members and pool entries that the words name. The judged class is class 1, her method 1. -/
namespace start1
open Jvm.ClassFile
def u (s : String) : CpInfo := .utf8 (stringToUtf16 s)
/-- a pool by its gaps: so many unusable entries, then the entry; so many at the end -/
def gap : Nat → List CpInfo → List CpInfo
  | 0, r => r
  | n + 1, r => .unusable :: gap n r
def poolList (es : List (Nat × CpInfo)) (last : Nat) : List CpInfo := es.foldr (fun e r => gap e.1 (e.2 :: r)) (gap last [])
def pool (es : List (Nat × CpInfo)) (last : Nat) : Array CpInfo := ⟨poolList es last⟩
def fileOf (pool : Array CpInfo) (this : Nat) (attrs : Array Attribute := #[]) (ms : Array MethodInfo := #[]) (fl : Nat := 33) (sup : Nat := 0) (ifs : Array Nat := #[]) (fds : Array FieldInfo := #[]) : ClassFile where
  minorVersion := 0
  majorVersion := 65
  constantPool := pool
  accessFlags := fl
  thisClass := this
  superClass := sup
  interfaces := ifs
  fields := fds
  methods := ms
  attributes := attrs
def plain (name : String) (sup : Option ClassId) : Class where
  name := name
  kind := .ordinary
  loader := none
  accessFlags := 33
  super := sup
  interfaces := #[]
  cf := none
  fields := #[]
  methods := #[]
  instanceTypes := #[]
  staticTypes := #[]
  resolved := #[]
  callSites := []
  init := .initialized
  statics := none
  mirror := none

def pool0 : Array CpInfo := pool [(5, u "<init>"), (0, u "()V"), (1, .class_ 10), (1, u "java/lang/Object")] 113

def k0c0 : Code := { maxStack := 0, maxLocals := 1, code := object_method_1_code, exceptionTable := #[], attributes := #[] }
def k0m0 : Method := { name := "<init>", desc := "()V", sig := { parameters := [], returnType := none }, accessFlags := 1, code := some k0c0 }
/-- java/lang/Object -/
def k0 : Class := { plain "java/lang/Object" none with
  accessFlags := 33
  interfaces := #[]
  cf := some (fileOf pool0 8 #[] #[{ accessFlags := 1, nameIndex := 5, descriptorIndex := 6, attributes := #[] }] 33 0 #[] #[])
  fields := #[]
  methods := #[k0m0]
  instanceTypes := #[]
  staticTypes := #[]
  resolved := Array.replicate 124 none
  statics := none }

def pool1 : Array CpInfo := pool [(2, .class_ 4), (1, u "java/lang/Object"), (0, u "<init>"), (0, u "()V"), (0, .class_ 8), (0, u "com/example/keystead/keystead/Geometry"), (0, .methodref 7 10), (0, .nameAndType 5 11), (0, u "(IIIIIIIIII)V"), (0, .methodref 7 13), (0, .nameAndType 14 15), (0, u "isDefault"), (0, u "(II)Z"), (0, .class_ 17), (0, u "com/example/keystead/keystead/GeometryIsDefaultPinLaw"), (2, u "law"), (0, u "(IIII)Z")] 3

def k1m0 : Method := { name := "<init>", desc := "()V", sig := { parameters := [], returnType := none }, accessFlags := 2, code := none }
def k1c1 : Code := { maxStack := 12, maxLocals := 7, code := code, exceptionTable := #[], attributes := #[] }
def k1m1 : Method := { name := "law", desc := "(IIII)Z", sig := { parameters := [.int, .int, .int, .int], returnType := some .boolean }, accessFlags := 9, code := some k1c1 }
/-- com/example/keystead/keystead/GeometryIsDefaultPinLaw -/
def k1 : Class := { plain "com/example/keystead/keystead/GeometryIsDefaultPinLaw" (some 0) with
  accessFlags := 49
  interfaces := #[]
  cf := some (fileOf pool1 16 #[] #[{ accessFlags := 2, nameIndex := 5, descriptorIndex := 6, attributes := #[] }, { accessFlags := 9, nameIndex := 20, descriptorIndex := 21, attributes := #[] }] 49 2 #[] #[])
  fields := #[]
  methods := #[k1m0, k1m1]
  instanceTypes := #[]
  staticTypes := #[]
  resolved := Array.replicate 25 none
  statics := none }

def pool2 : Array CpInfo := pool [(1, .methodref 2 3), (0, .class_ 4), (0, .nameAndType 5 6), (0, u "java/lang/Object"), (0, u "<init>"), (0, u "()V"), (0, .class_ 8), (0, u "java/lang/Record")] 13

def k2c0 : Code := { maxStack := 1, maxLocals := 1, code := jdk_30_method_1_code, exceptionTable := #[], attributes := #[] }
def k2m0 : Method := { name := "<init>", desc := "()V", sig := { parameters := [], returnType := none }, accessFlags := 4, code := some k2c0 }
/-- java/lang/Record -/
def k2 : Class := { plain "java/lang/Record" (some 0) with
  accessFlags := 1057
  interfaces := #[]
  cf := some (fileOf pool2 7 #[] #[{ accessFlags := 4, nameIndex := 5, descriptorIndex := 6, attributes := #[] }] 1057 2 #[] #[])
  fields := #[]
  methods := #[k2m0]
  instanceTypes := #[]
  staticTypes := #[]
  resolved := Array.replicate 22 none
  statics := none }

def pool3 : Array CpInfo := pool [(3, .class_ 4), (0, u "com/example/keystead/keystead/Geometry"), (2, .methodref 8 9), (0, .class_ 10), (0, .nameAndType 11 12), (0, u "java/lang/Record"), (0, u "<init>"), (0, u "()V"), (0, .fieldref 3 14), (0, .nameAndType 15 16), (0, u "segments"), (0, u "I"), (0, .fieldref 3 18), (0, .nameAndType 19 16), (0, u "slotsPerTier"), (0, .fieldref 3 21), (0, .nameAndType 22 16), (0, u "chunkSize"), (0, .fieldref 3 24), (0, .nameAndType 25 16), (0, u "chunksPerTier"), (0, .fieldref 3 27), (0, .nameAndType 28 16), (0, u "extraTiers"), (0, .fieldref 3 30), (0, .nameAndType 31 16), (0, u "slotBytes"), (0, .fieldref 3 33), (0, .nameAndType 34 16), (0, u "checkBytes"), (0, .fieldref 3 36), (0, .nameAndType 37 16), (0, u "defaultKeySize"), (0, .fieldref 3 39), (0, .nameAndType 40 16), (0, u "defaultValueSize"), (0, .fieldref 3 42), (0, .nameAndType 43 16), (0, u "sizeForm"), (2, u "(IIIIIIIIII)V"), (6, u "FIELD_OFFSETS"), (0, u "[I"), (29, u "(II)Z"), (19, u "WIDTHS"), (0, u "[[I"), (1, .class_ 109), (1, u "com/example/keystead/keystead/Geometry$Layout"), (144, u "isDefault"), (58, u "HEADER_BYTES"), (2, u "TIER_HEADER_BYTES"), (1, u "PAGE"), (0, u "MAX_TIER_BYTES"), (0, u "J"), (0, u "MAX_SPAN_BYTES"), (0, u "NO_LIMIT"), (0, u "PROCESS_SLOTS"), (1, u "CACHE_LINE"), (1, u "READ_COUNT_LINES"), (0, u "MAX_SEGMENTS"), (0, u "MIN_SLOTS"), (1, u "MAX_SLOTS"), (0, u "MAX_LOAD"), (0, u "D"), (0, u "SEGMENT_DATA"), (2, u "SPACE_BOUND"), (0, u "MIN_WIDE_TAG"), (0, u "VARINT_SIZES"), (1, u "SHORT_SIZES"), (1, u "SHORT_KEYS"), (1, u "SHORT_VALUES"), (1, u "LONG_SIZES"), (1, u "FIELDS_END")] 70

def k3c0 : Code := { maxStack := 2, maxLocals := 11, code := prog_25_method_3_code, exceptionTable := #[], attributes := #[] }
def k3m0 : Method := { name := "<init>", desc := "(IIIIIIIIII)V", sig := { parameters := [.int, .int, .int, .int, .int, .int, .int, .int, .int, .int], returnType := none }, accessFlags := 0, code := some k3c0 }
def k3c1 : Code := { maxStack := 2, maxLocals := 3, code := prog_25_method_21_code, exceptionTable := #[], attributes := #[] }
def k3m1 : Method := { name := "isDefault", desc := "(II)Z", sig := { parameters := [.int, .int], returnType := some .boolean }, accessFlags := 0, code := some k3c1 }
/-- com/example/keystead/keystead/Geometry -/
def k3 : Class := { plain "com/example/keystead/keystead/Geometry" (some 2) with
  accessFlags := 48
  interfaces := #[]
  cf := some (fileOf pool3 3 #[.nestMembers #[107]] #[{ accessFlags := 0, nameIndex := 11, descriptorIndex := 46, attributes := #[] }, { accessFlags := 0, nameIndex := 254, descriptorIndex := 84, attributes := #[] }] 48 8 #[] #[{ accessFlags := 18, nameIndex := 15, descriptorIndex := 16, attributes := #[] }, { accessFlags := 18, nameIndex := 19, descriptorIndex := 16, attributes := #[] }, { accessFlags := 18, nameIndex := 22, descriptorIndex := 16, attributes := #[] }, { accessFlags := 18, nameIndex := 25, descriptorIndex := 16, attributes := #[] }, { accessFlags := 18, nameIndex := 28, descriptorIndex := 16, attributes := #[] }, { accessFlags := 18, nameIndex := 31, descriptorIndex := 16, attributes := #[] }, { accessFlags := 18, nameIndex := 34, descriptorIndex := 16, attributes := #[] }, { accessFlags := 18, nameIndex := 37, descriptorIndex := 16, attributes := #[] }, { accessFlags := 18, nameIndex := 40, descriptorIndex := 16, attributes := #[] }, { accessFlags := 18, nameIndex := 43, descriptorIndex := 16, attributes := #[] }, { accessFlags := 24, nameIndex := 313, descriptorIndex := 16, attributes := #[] }, { accessFlags := 24, nameIndex := 316, descriptorIndex := 16, attributes := #[] }, { accessFlags := 24, nameIndex := 318, descriptorIndex := 16, attributes := #[] }, { accessFlags := 24, nameIndex := 319, descriptorIndex := 320, attributes := #[] }, { accessFlags := 24, nameIndex := 321, descriptorIndex := 320, attributes := #[] }, { accessFlags := 24, nameIndex := 322, descriptorIndex := 320, attributes := #[] }, { accessFlags := 24, nameIndex := 323, descriptorIndex := 16, attributes := #[] }, { accessFlags := 26, nameIndex := 325, descriptorIndex := 16, attributes := #[] }, { accessFlags := 26, nameIndex := 327, descriptorIndex := 16, attributes := #[] }, { accessFlags := 24, nameIndex := 328, descriptorIndex := 16, attributes := #[] }, { accessFlags := 24, nameIndex := 329, descriptorIndex := 16, attributes := #[] }, { accessFlags := 24, nameIndex := 331, descriptorIndex := 16, attributes := #[] }, { accessFlags := 24, nameIndex := 332, descriptorIndex := 333, attributes := #[] }, { accessFlags := 26, nameIndex := 334, descriptorIndex := 320, attributes := #[] }, { accessFlags := 26, nameIndex := 337, descriptorIndex := 333, attributes := #[] }, { accessFlags := 26, nameIndex := 104, descriptorIndex := 105, attributes := #[] }, { accessFlags := 26, nameIndex := 338, descriptorIndex := 16, attributes := #[] }, { accessFlags := 24, nameIndex := 339, descriptorIndex := 16, attributes := #[] }, { accessFlags := 24, nameIndex := 341, descriptorIndex := 16, attributes := #[] }, { accessFlags := 24, nameIndex := 343, descriptorIndex := 16, attributes := #[] }, { accessFlags := 24, nameIndex := 345, descriptorIndex := 16, attributes := #[] }, { accessFlags := 24, nameIndex := 347, descriptorIndex := 16, attributes := #[] }, { accessFlags := 26, nameIndex := 53, descriptorIndex := 54, attributes := #[] }, { accessFlags := 24, nameIndex := 349, descriptorIndex := 16, attributes := #[] }])
  fields := #[{ name := "segments", type := .int, accessFlags := 18, slot := 0, constantValue := 0 }, { name := "slotsPerTier", type := .int, accessFlags := 18, slot := 1, constantValue := 0 }, { name := "chunkSize", type := .int, accessFlags := 18, slot := 2, constantValue := 0 }, { name := "chunksPerTier", type := .int, accessFlags := 18, slot := 3, constantValue := 0 }, { name := "extraTiers", type := .int, accessFlags := 18, slot := 4, constantValue := 0 }, { name := "slotBytes", type := .int, accessFlags := 18, slot := 5, constantValue := 0 }, { name := "checkBytes", type := .int, accessFlags := 18, slot := 6, constantValue := 0 }, { name := "defaultKeySize", type := .int, accessFlags := 18, slot := 7, constantValue := 0 }, { name := "defaultValueSize", type := .int, accessFlags := 18, slot := 8, constantValue := 0 }, { name := "sizeForm", type := .int, accessFlags := 18, slot := 9, constantValue := 0 }, { name := "HEADER_BYTES", type := .int, accessFlags := 24, slot := 0, constantValue := 0 }, { name := "TIER_HEADER_BYTES", type := .int, accessFlags := 24, slot := 1, constantValue := 0 }, { name := "PAGE", type := .int, accessFlags := 24, slot := 2, constantValue := 0 }, { name := "MAX_TIER_BYTES", type := .long, accessFlags := 24, slot := 3, constantValue := 0 }, { name := "MAX_SPAN_BYTES", type := .long, accessFlags := 24, slot := 4, constantValue := 0 }, { name := "NO_LIMIT", type := .long, accessFlags := 24, slot := 5, constantValue := 0 }, { name := "PROCESS_SLOTS", type := .int, accessFlags := 24, slot := 6, constantValue := 0 }, { name := "CACHE_LINE", type := .int, accessFlags := 26, slot := 7, constantValue := 0 }, { name := "READ_COUNT_LINES", type := .int, accessFlags := 26, slot := 8, constantValue := 0 }, { name := "MAX_SEGMENTS", type := .int, accessFlags := 24, slot := 9, constantValue := 0 }, { name := "MIN_SLOTS", type := .int, accessFlags := 24, slot := 10, constantValue := 0 }, { name := "MAX_SLOTS", type := .int, accessFlags := 24, slot := 11, constantValue := 0 }, { name := "MAX_LOAD", type := .double, accessFlags := 24, slot := 12, constantValue := 0 }, { name := "SEGMENT_DATA", type := .long, accessFlags := 26, slot := 13, constantValue := 0 }, { name := "SPACE_BOUND", type := .double, accessFlags := 26, slot := 14, constantValue := 0 }, { name := "WIDTHS", type := (.array (.array .int)), accessFlags := 26, slot := 15, constantValue := 0 }, { name := "MIN_WIDE_TAG", type := .int, accessFlags := 26, slot := 16, constantValue := 0 }, { name := "VARINT_SIZES", type := .int, accessFlags := 24, slot := 17, constantValue := 0 }, { name := "SHORT_SIZES", type := .int, accessFlags := 24, slot := 18, constantValue := 0 }, { name := "SHORT_KEYS", type := .int, accessFlags := 24, slot := 19, constantValue := 0 }, { name := "SHORT_VALUES", type := .int, accessFlags := 24, slot := 20, constantValue := 0 }, { name := "LONG_SIZES", type := .int, accessFlags := 24, slot := 21, constantValue := 0 }, { name := "FIELD_OFFSETS", type := (.array .int), accessFlags := 26, slot := 22, constantValue := 0 }, { name := "FIELDS_END", type := .int, accessFlags := 24, slot := 23, constantValue := 0 }]
  methods := #[k3m0, k3m1]
  instanceTypes := #[.int, .int, .int, .int, .int, .int, .int, .int, .int, .int]
  staticTypes := #[.int, .int, .int, .long, .long, .long, .int, .int, .int, .int, .int, .int, .double, .long, .double, (.array (.array .int)), .int, .int, .int, .int, .int, .int, (.array .int), .int]
  resolved := Array.replicate 420 none
  statics := none }

def pool4 : Array CpInfo := pool [(1, u "java/lang/Cloneable"), (0, .class_ 1), (0, u "java/lang/Object"), (0, .class_ 3)] 3

/-- java/lang/Cloneable -/
def k4 : Class := { plain "java/lang/Cloneable" (some 0) with
  accessFlags := 1537
  interfaces := #[]
  cf := some (fileOf pool4 2 #[] #[] 1537 4 #[] #[])
  fields := #[]
  methods := #[]
  instanceTypes := #[]
  staticTypes := #[]
  resolved := Array.replicate 8 none
  statics := none }

def pool5 : Array CpInfo := pool [(1, u "java/io/Serializable"), (0, .class_ 1), (0, u "java/lang/Object"), (0, .class_ 3)] 3

/-- java/io/Serializable -/
def k5 : Class := { plain "java/io/Serializable" (some 0) with
  accessFlags := 1537
  interfaces := #[]
  cf := some (fileOf pool5 2 #[] #[] 1537 4 #[] #[])
  fields := #[]
  methods := #[]
  instanceTypes := #[]
  staticTypes := #[]
  resolved := Array.replicate 8 none
  statics := none }

/-- the primitive byte -/
def k6 : Class := { plain "byte" none with kind := .primitive 'B', accessFlags := 0x411 }
/-- [B -/
def k7 : Class := { plain "[B" (some 0) with kind := .array 6 .byte, interfaces := #[4, 5], accessFlags := 1041 }

/-- the primitive int -/
def k8 : Class := { plain "int" none with kind := .primitive 'I', accessFlags := 0x411 }
/-- [I -/
def k9 : Class := { plain "[I" (some 0) with kind := .array 8 .int, interfaces := #[4, 5], accessFlags := 1041 }

def heap : Heap := #[]
def classes : Array Class := #[k0, k1, k2, k3, k4, k5, k6, k7, k8, k9]
def interned : List (Array UInt16 × Addr) := []
def slotsUsed : Nat := 0
def theMethod : MethodId := ⟨1, 1⟩
def args0 : Array Value := #[.int 1, .int 2, .int 0, .int 0]
def aboutOver (below : List Frame) : State where
  vm := { classes := classes, interned := interned.toArray }
  heap := heap
  slotsUsed := slotsUsed
  threads := #[{ frames := .invoking theMethod args0 :: below }]
def below0 : List Frame := [.native { method := ⟨0, 0⟩, args := #[] }]
def about1 : State := aboutOver below0
def p0 : Program := .bare "" "" ""
def e0 : Env := launch0.env 0 0 0
theorem w_frames : about1.frames = Frame.invoking theMethod args0 :: below0 := rfl
set_option maxRecDepth 65536 in
theorem w_args : argsFit about1.vm theMethod args0 = true := by decide +kernel
set_option maxRecDepth 65536 in
theorem w_heap : heapFits about1 = true := by decide +kernel
set_option maxRecDepth 65536 in
theorem w_runnable : about1.curStatus? = some .runnable := by decide +kernel
set_option maxRecDepth 65536 in
theorem w_alone : about1.alone = true := by decide +kernel
set_option maxRecDepth 65536 in
theorem w_named : about1.methodNamed? x = some theMethod := by decide +kernel
set_option maxRecDepth 65536 in
theorem w_hears : about1.hears theMethod below0 = true := by decide +kernel
set_option maxRecDepth 65536 in
theorem w_ripe : about1.ripe theMethod args0 below0 = true := by decide +kernel
theorem w_running : about1.status = .running := rfl
set_option maxRecDepth 65536 in
theorem w_room : about1.hasRoom e0.platform room_1 = true :=
  launch0.hasRoom_least _ room_1 (by decide +kernel) (by decide +kernel) (by decide +kernel) (by decide +kernel) (by decide +kernel) (by decide +kernel)
theorem allAtoms_all (ts : List Jvm.Cond) (a : Array Jvm.Value) (st : Jvm.State) : (allAtoms ts).before a st = ts.all (fun c => c.before a st) := by
  induction ts with
  | nil => rfl
  | cons c t ih =>
    show (Jvm.Cond.and c (allAtoms t)).before a st = _
    rw [Jvm.Cond.before_and, ih, List.all_cons]
def words1 : List Jvm.Cond := Jvm.Cond.code x code maxLocals ret :: tables_1
/-- a 'code' word, met by the world's own term for the bytes: nothing is compared byte by byte -/
theorem code_word {y : MethodName} {bytes : ByteArray} {mx : Nat} {rt : Option FieldType} {a : Array Value} {s : State} {m : MethodId} {meth : Method} {c : Code} (h1 : s.methodNamed? y = some m) (h2 : s.vm.method? m = some meth) (h3 : meth.code = some c) (h4 : c.code = bytes)
    (h5 : (c.maxLocals == mx && c.exceptionTable.isEmpty && decide (c.maxStack ≤ mostOperands) && decide (meth.sig.returnType = rt) && !meth.locks && decide (parseMethodDescriptor y.desc = some meth.sig)) = true) : (Jvm.Cond.code y bytes mx rt).before a s = true := by
  simp only [Bool.and_eq_true, beq_iff_eq, Bool.not_eq_true', decide_eq_true_eq] at h5
  obtain ⟨⟨⟨⟨⟨g1, g2⟩, g3⟩, g4⟩, g5⟩, g6⟩ := h5
  simp [Cond.before, Cond.holds, Cond.value, h1, h2, h3, h4, g1, g2, g3, g4, g5, g6]
def isCode : Jvm.Cond → Bool
  | .code _ _ _ _ => true
  | _ => false
theorem all_split {L : List Jvm.Cond} {P : Jvm.Cond → Bool} (h1 : L.all (fun c => isCode c || P c) = true) (h2 : ∀ c ∈ L.filter isCode, P c = true) : L.all P = true := by
  refine List.all_eq_true.mpr fun c hc => ?_
  have h := List.all_eq_true.mp h1 c hc
  rcases Bool.eq_false_or_eq_true (isCode c) with hi | hi
  · exact h2 c (List.mem_filter.mpr ⟨hc, hi⟩)
  · simpa [hi] using h
set_option maxRecDepth 65536 in
theorem w_c0 : (Jvm.Cond.code x code maxLocals ret).before args0 about1 = true := code_word (m := ⟨1, 1⟩) (meth := k1m1) (c := k1c1) (by decide +kernel) rfl rfl rfl (by decide +kernel)
set_option maxRecDepth 65536 in
theorem w_c1 : (Jvm.Cond.code ({ cls := "com/example/keystead/keystead/Geometry", name := "<init>", desc := "(IIIIIIIIII)V" } : Jvm.MethodName) prog_25_method_3_code (11 : Nat) (Option.none : Option Jvm.ClassFile.FieldType)).before args0 about1 = true := code_word (m := ⟨3, 0⟩) (meth := k3m0) (c := k3c0) (by decide +kernel) rfl rfl rfl (by decide +kernel)
set_option maxRecDepth 65536 in
theorem w_c2 : (Jvm.Cond.code ({ cls := "java/lang/Record", name := "<init>", desc := "()V" } : Jvm.MethodName) jdk_30_method_1_code (1 : Nat) (Option.none : Option Jvm.ClassFile.FieldType)).before args0 about1 = true := code_word (m := ⟨2, 0⟩) (meth := k2m0) (c := k2c0) (by decide +kernel) rfl rfl rfl (by decide +kernel)
set_option maxRecDepth 65536 in
theorem w_c3 : (Jvm.Cond.code ({ cls := "java/lang/Object", name := "<init>", desc := "()V" } : Jvm.MethodName) object_method_1_code (1 : Nat) (Option.none : Option Jvm.ClassFile.FieldType)).before args0 about1 = true := code_word (m := ⟨0, 0⟩) (meth := k0m0) (c := k0c0) (by decide +kernel) rfl rfl rfl (by decide +kernel)
set_option maxRecDepth 65536 in
theorem w_c4 : (Jvm.Cond.code ({ cls := "com/example/keystead/keystead/Geometry", name := "isDefault", desc := "(II)Z" } : Jvm.MethodName) prog_25_method_21_code (3 : Nat) (Option.some Jvm.ClassFile.FieldType.boolean)).before args0 about1 = true := code_word (m := ⟨3, 1⟩) (meth := k3m1) (c := k3c1) (by decide +kernel) rfl rfl rfl (by decide +kernel)
def codes1 : List Jvm.Cond := [Jvm.Cond.code x code maxLocals ret, Jvm.Cond.code ({ cls := "com/example/keystead/keystead/Geometry", name := "<init>", desc := "(IIIIIIIIII)V" } : Jvm.MethodName) prog_25_method_3_code (11 : Nat) (Option.none : Option Jvm.ClassFile.FieldType), Jvm.Cond.code ({ cls := "java/lang/Record", name := "<init>", desc := "()V" } : Jvm.MethodName) jdk_30_method_1_code (1 : Nat) (Option.none : Option Jvm.ClassFile.FieldType), Jvm.Cond.code ({ cls := "java/lang/Object", name := "<init>", desc := "()V" } : Jvm.MethodName) object_method_1_code (1 : Nat) (Option.none : Option Jvm.ClassFile.FieldType), Jvm.Cond.code ({ cls := "com/example/keystead/keystead/Geometry", name := "isDefault", desc := "(II)Z" } : Jvm.MethodName) prog_25_method_21_code (3 : Nat) (Option.some Jvm.ClassFile.FieldType.boolean)]
set_option maxRecDepth 65536 in
theorem codes_eq : words1.filter isCode = codes1 := rfl
theorem w_codes : ∀ c ∈ words1.filter isCode, c.before args0 about1 = true := by
  rw [codes_eq]
  intro c hc
  simp only [codes1, List.mem_cons, List.not_mem_nil, or_false] at hc
  rcases hc with rfl | rfl | rfl | rfl | rfl
  · exact w_c0
  · exact w_c1
  · exact w_c2
  · exact w_c3
  · exact w_c4
set_option maxRecDepth 65536 in
theorem w_t1 : (words1.take 24).all (fun c => isCode c || c.before args0 about1) = true := by decide +kernel
set_option maxRecDepth 65536 in
theorem w_t2 : (words1.drop 24).all (fun c => isCode c || c.before args0 about1) = true := by decide +kernel
theorem w_tables : (allAtoms (Jvm.Cond.code x code maxLocals ret :: tables_1)).before args0 about1 = true := by
  rw [allAtoms_all]
  show words1.all (fun c => c.before args0 about1) = true
  refine all_split ?_ w_codes
  rw [← List.take_append_drop 24 words1, List.all_append, w_t1, w_t2]
  rfl
set_option maxRecDepth 65536 in
theorem w_case : (Jvm.Cond.and given_1 narrow_1).before args0 about1 = true := by decide +kernel
theorem w_applies : (headSpec (Jvm.Cond.code x code maxLocals ret :: tables_1) room_1).applies x e0.platform about1 = true :=
  (Spec.applies_iff w_frames).mpr ⟨w_running, w_runnable, w_alone, w_named, w_hears, w_ripe, w_room, w_tables⟩
theorem atStart : AtStart classFile x code maxLocals ret World_1 tables_1 room_1 Calls_1 rest_1 Pre_1 launch0 p0 e0 about1 theMethod args0 below0 :=
  ⟨lists_1, trivial, launch0.admits_env _ _ _, launch0.least_env, fairChoices_fair.cas, fairChoices_fair.clock, w_frames, w_args, w_heap, w_applies, trivial, trivial, w_case⟩
end start1
theorem witness_1 : WitnessClaimed_1 := ⟨start1.p0, start1.e0, start1.about1, start1.theMethod, start1.args0, start1.below0, start1.atStart⟩
end Jvm.Pilot.@@N@@
