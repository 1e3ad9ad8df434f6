import JvmDerived
import JvmDerived.Pilot.@@N@@Statement
import JvmDerived.Pilot.@@N@@Code
set_option linter.unusedVariables false
set_option linter.unusedSimpArgs false
@@BLOCK:NumsL.lean.txt@@
namespace Jvm.RoadKit
open Sem ClassFile Op Lib Jvm.Stand Jvm.Free Jvm.LawKit
section New
variable {p : Program} {l : Launch} {e : Env} {R : Room} {s : State} {m : MethodId} {args : Array Value} {below : List Frame} {meth : Method} {c : Code} {T : State} {locs : List Loc} {cells slots : Nat}
theorem retI (X : Stand p l e R s m args below meth c T locs cells slots) (hx : p.tables.exec = Jvm.exec) {pc : Nat} {Ls : Array Slot} {z : Int32} {rest : List Value} (hret : meth.sig.returnType = some .int) (hd : decode c.code pc = .ok (.ireturn, 1)) {fs : List Frame}
    (hl : ∀ (f : JFrame) (acts : List Action), f.method = m → f.locked = none → f.entered = [] → (doReturn e (T.setTop f) acts (some (.int z))).1 = T.setFrames fs) : Steps p.tables e below (T.setTop (mkF m pc Ls (.int z :: rest))) (T.setFrames fs) := by
  have hm' : T.vm.method? m = some meth := X.method'
  have hn : narrow .int (.int z) = .int z := rfl
  show Steps p.tables e below (T.setTop { method := m, pc := pc, locals := Ls, stack := _ :: rest, locked := none }) _
  jvm_step X.here [X.here.top, hx, hd, hm', hret, hn]
  first | (intro acts; rw [hl _ acts rfl rfl rfl]) | rw [hl _ _ rfl rfl rfl]
  exact Steps.refl _
/-- the run from A comes to a return of which F says the value, the heap and the written places -/
def own_Goes (p : Program) (e : Env) (below : List Frame) (s : State) (F : Option Value → Heap → List Loc → Prop) (k n : Nat) (A : State) : Prop :=
  ∃ s₂ o, Steps p.tables e below A s₂ ∧ s₂.status = .running ∧ Ended s₂ below o ∧ ∃ v L, o = .returned v ∧ F v s₂.heap L ∧ FrameEnd s o s₂ L k n
variable {F : Option Value → Heap → List Loc → Prop} {k n : Nat}
theorem own_Goes.step {A B : State} (h : ∀ t, Steps p.tables e below B t → Steps p.tables e below A t) (g : own_Goes p e below s F k n B) : own_Goes p e below s F k n A := by
  obtain ⟨s₂, o, h1, h2⟩ := g
  exact ⟨s₂, o, h _ h1, h2⟩
theorem own_endI (X : Stand p l e R s m args below meth c T locs cells slots) (hx : p.tables.exec = Jvm.exec) (hlk : meth.locks = false) {pc : Nat} {Ls : Array Slot} {z : Int32} {rest : List Value} (hret : meth.sig.returnType = some .int) (hd : decode c.code pc = .ok (.ireturn, 1)) (hF : F (some (.int z)) T.heap locs) (hk : cells ≤ k) (hn : slots ≤ n) :
    own_Goes p e below s F k n (T.setTop (mkF m pc Ls (.int z :: rest))) := by
  obtain ⟨fs, hr, hrun, hended, hW, hsame⟩ := X.leave (v := some (.int z)) (fun h => by rw [hret] at h; cases h) hlk
  exact ⟨_, _, retI X hx hret hd hr, hrun, hended, _, _, rfl, hF, ⟨_, rfl⟩, hW, hsame.mono hk hn⟩
theorem own_endN (X : Stand p l e R s m args below meth c T locs cells slots) (hx : p.tables.exec = Jvm.exec) (hlk : meth.locks = false) {pc : Nat} {Ls : Array Slot} {z : Int32} {t : FieldType} {rest : List Value} (hret : meth.sig.returnType = some t) (ht : t = .boolean ∨ t = .byte ∨ t = .char ∨ t = .short) (hd : decode c.code pc = .ok (.ireturn, 1)) (hF : F (some (.int (nar t z))) T.heap locs) (hk : cells ≤ k) (hn : slots ≤ n) :
    own_Goes p e below s F k n (T.setTop (mkF m pc Ls (.int z :: rest))) := by
  obtain ⟨fs, hr, hrun, hended, hW, hsame⟩ := X.leave (v := some (.int (nar t z))) (fun h => by rw [hret] at h; cases h) hlk
  exact ⟨_, _, retN X hx hret ht hd hr, hrun, hended, _, _, rfl, hF, ⟨_, rfl⟩, hW, hsame.mono hk hn⟩
theorem own_endJ (X : Stand p l e R s m args below meth c T locs cells slots) (hx : p.tables.exec = Jvm.exec) (hlk : meth.locks = false) {pc : Nat} {Ls : Array Slot} {z : Int64} (hret : meth.sig.returnType = some .long) (hd : decode c.code pc = .ok (.lreturn, 1)) (hF : F (some (.long z)) T.heap locs) (hk : cells ≤ k) (hn : slots ≤ n) :
    own_Goes p e below s F k n (T.setTop (mkF m pc Ls [.long z])) := by
  obtain ⟨fs, hr, hrun, hended, hW, hsame⟩ := X.leave (v := some (.long z)) (fun h => by rw [hret] at h; cases h) hlk
  exact ⟨_, _, X.lreturnOut hx hret hd hr, hrun, hended, _, _, rfl, hF, ⟨_, rfl⟩, hW, hsame.mono hk hn⟩
theorem own_endV (X : Stand p l e R s m args below meth c T locs cells slots) (hx : p.tables.exec = Jvm.exec) (hlk : meth.locks = false) {pc : Nat} {Ls : Array Slot} (hret : meth.sig.returnType = none) (hd : decode c.code pc = .ok (.return_, 1)) (hF : F none T.heap locs) (hk : cells ≤ k) (hn : slots ≤ n) :
    own_Goes p e below s F k n (T.setTop (mkF m pc Ls [])) := by
  obtain ⟨fs, hr, hrun, hended, hW, hsame⟩ := X.leave (v := none) (fun _ => rfl) hlk
  exact ⟨_, _, X.returnOut hx hret hd hr, hrun, hended, _, _, rfl, hF, ⟨_, rfl⟩, hW, hsame.mono hk hn⟩
theorem own_endA (X : Stand p l e R s m args below meth c T locs cells slots) (hx : p.tables.exec = Jvm.exec) (hlk : meth.locks = false) {pc : Nat} {Ls : Array Slot} {w : Value} {t : FieldType} (hw : w.isRef = true) (hret : meth.sig.returnType = some t) (ht : t.isReference = true) (hd : decode c.code pc = .ok (.areturn, 1)) (hF : F (some w) T.heap locs) (hk : cells ≤ k) (hn : slots ≤ n) :
    own_Goes p e below s F k n (T.setTop (mkF m pc Ls [w])) := by
  obtain ⟨fs, hr, hrun, hended, hW, hsame⟩ := X.leave (v := some w) (fun h => by rw [hret] at h; cases h) hlk
  exact ⟨_, _, X.areturnOut hx hw hret ht hd hr, hrun, hended, _, _, rfl, hF, ⟨_, rfl⟩, hW, hsame.mono hk hn⟩
theorem own_lrem (x y : Int64) : x - x / y * y = x % y := by
  refine Int64.toInt_inj.mp ?_
  rw [Jvm.Kit.i64_rem, Int64.toInt_mod]
theorem own_lremM {g : JFrame} {target : State} (X : Stand p l e R s m args below meth c T locs cells slots) (hx : p.tables.exec = Jvm.exec) (hg : g.method = m) {x y : Int64} {rest : List Value} (hd : decode c.code g.pc = .ok (.lrem, 1)) (hs : g.stack = .long y :: .long x :: rest) (hy : y ≠ 0)
    (hr : Steps p.tables e below (T.setTop { g with pc := g.pc + 1, stack := .long (x % y) :: rest }) target) : Steps p.tables e below (T.setTop g) target :=
  XT.lrem X.here hx hg hd hs hy (by rw [own_lrem]; exact hr)
/-- the three calls, by a contract in this family, carried forward -/
theorem own_stat {Z : State} {a0 : Array Value} {h : Heap} (X : Stand p l e R s m args below meth c T locs cells slots) (hx : p.tables.exec = Jvm.exec) (hZ : Z.Warmed39 s.vm) (eT : T.heap = h) {own : String} {index : Nat} {y : MethodName} {bytes : ByteArray} {maxL : Nat} {ret : Option FieldType} {rm : Room} {W : Nat} {argsL rest : List Value} {Q : Option Value → Heap → List Loc → Prop}
    (hown : s.vm.findClass own = some m.cls) (wl : (Cond.methodLink own index y).before a0 Z = true) (wst : (Cond.static y).before a0 Z = true) (wi : (Cond.initialized y.cls).before a0 Z = true) (wc : (Cond.code y bytes maxL ret).before a0 Z = true) (hy : y.cls ≠ "java/lang/invoke/MethodHandle" ∧ y.cls ≠ "java/lang/invoke/VarHandle")
    (hM : MetFree l y (head1 [Cond.code y bytes maxL ret] rm) (fun a U => a = argsL.toArray ∧ Z.Warmed39 U.vm ∧ U.heap = h) (fun _ _ _ _ _ => True) (fun _ U o U' => ∃ w L, o = .returned w ∧ Q w U'.heap L ∧ FrameEnd U o U' L rm.cells rm.slots))
    (hf : rm.frames + 1 ≤ R.frames) (hl : W + (maxL + 11) + rm.locals ≤ R.locals) (hcells : cells + rm.cells ≤ R.cells) (hslots : slots + rm.slots ≤ R.slots)
    {g : JFrame} (hg : g.method = m) (hsize : g.locals.size = c.maxLocals) (hlen : ∀ sig, parseMethodDescriptor y.desc = some sig → argsL.length = sig.parameters.length) (hstack : g.stack = argsL.reverse ++ rest) (hW : 2 * g.monitorRoom + (rest.map fun v => v.category).sum ≤ W) (hdg : decode c.code g.pc = .ok (.invokestatic index, 3)) :
    ∃ w T' L, Q w T'.heap L ∧ Stand p l e R s m args below meth c T' (locs ++ L) (cells + rm.cells) (slots + rm.slots) ∧ ∀ t, Steps p.tables e below (T'.setTop { g with pc := g.pc + 3, stack := w.toList ++ rest }) t → Steps p.tables e below (T.setTop g) t := by
  have hB := backOf (R := R) (p := p) (e := e) (below := below) (args := args) (len := 3) (W := W) (Q := Q) hM hZ wc wi hf hl
  obtain ⟨w, vm₁, ⟨U, Lc, k1, n1⟩, -, X', ⟨L, hQ, hL, hC, hS⟩, st⟩ := Jvm.LawKit.callS X hx (y := y) hown (mvT hZ wl) (mvT hZ wst) (mvT hZ wi) (mvT hZ wc) hy hB (g := g) hg hsize hlen hstack hW hdg (fun _ _ => ⟨rfl, eT, hcells, hslots⟩)
  dsimp only [Pt.U, Pt.locs, Pt.cells, Pt.slots] at X' hQ hL hC hS st
  subst hL hC hS
  exact ⟨w, U, L, hQ, X', st⟩
theorem own_spec {Z : State} {a0 : Array Value} {h : Heap} (X : Stand p l e R s m args below meth c T locs cells slots) (hx : p.tables.exec = Jvm.exec) (hZ : Z.Warmed39 s.vm) (eT : T.heap = h) {own : String} {index : Nat} {y : MethodName} {bytes : ByteArray} {maxL : Nat} {rm : Room} {W : Nat} {a : Addr} {argsL rest : List Value} {Q : Option Value → Heap → List Loc → Prop}
    (hy1 : y.name = "<init>") (hown : s.vm.findClass own = some m.cls) (wl : (Cond.methodLink own index y).before a0 Z = true) (wst : (Cond.instanceMethod y).before a0 Z = true) (wi : (Cond.initialized y.cls).before a0 Z = true) (wc : (Cond.code y bytes maxL none).before a0 Z = true) (hy : y.cls ≠ "java/lang/invoke/MethodHandle" ∧ y.cls ≠ "java/lang/invoke/VarHandle")
    (hM : MetFree l y (head1 [Cond.code y bytes maxL none] rm) (fun b U => b = (.ref a :: argsL).toArray ∧ Z.Warmed39 U.vm ∧ U.heap = h) (fun _ _ _ _ _ => True) (fun _ U o U' => ∃ w L, o = .returned w ∧ Q w U'.heap L ∧ FrameEnd U o U' L rm.cells rm.slots))
    (hf : rm.frames + 1 ≤ R.frames) (hl : W + (maxL + 11) + rm.locals ≤ R.locals) (hcells : cells + rm.cells ≤ R.cells) (hslots : slots + rm.slots ≤ R.slots)
    {g : JFrame} (hg : g.method = m) (hsize : g.locals.size = c.maxLocals) (hlen : ∀ sig, parseMethodDescriptor y.desc = some sig → argsL.length = sig.parameters.length) (hstack : g.stack = argsL.reverse ++ .ref a :: rest) (hW : 2 * g.monitorRoom + (rest.map fun v => v.category).sum ≤ W) (hdg : decode c.code g.pc = .ok (.invokespecial index, 3)) :
    ∃ w T' L, Q w T'.heap L ∧ Stand p l e R s m args below meth c T' (locs ++ L) (cells + rm.cells) (slots + rm.slots) ∧ ∀ t, Steps p.tables e below (T'.setTop { g with pc := g.pc + 3, stack := w.toList ++ rest }) t → Steps p.tables e below (T.setTop g) t := by
  have hB := backOf (R := R) (p := p) (e := e) (below := below) (args := args) (len := 3) (W := W) (Q := Q) hM hZ wc wi hf hl
  obtain ⟨w, vm₁, ⟨U, Lc, k1, n1⟩, -, X', ⟨L, hQ, hL, hC, hS⟩, st⟩ := X.specialBack hx (y := y) hy1 hown (mvT hZ wl) (mvT hZ wst) (mvT hZ wc) hy hB (g := g) hg hsize (Steps.refl _) (a := a) hlen hstack hW hdg (fun _ _ => ⟨rfl, eT, hcells, hslots⟩)
  dsimp only [Pt.U, Pt.locs, Pt.cells, Pt.slots] at X' hQ hL hC hS st
  subst hL hC hS
  exact ⟨w, U, L, hQ, X', fun t k => st.trans k⟩
theorem own_virt {Z : State} {a0 : Array Value} {h : Heap} (X : Stand p l e R s m args below meth c T locs cells slots) (hx : p.tables.exec = Jvm.exec) (hZ : Z.Warmed39 s.vm) (eT : T.heap = h) {own C : String} {index : Nat} {y : MethodName} {bytes : ByteArray} {maxL : Nat} {ret : Option FieldType} {rm : Room} {W : Nat} {a : Addr} {argsL rest : List Value} {Q : Option Value → Heap → List Loc → Prop}
    (E : Exa Z h a C) (hown : s.vm.findClass own = some m.cls) (wl : (Cond.methodLink own index y).before a0 Z = true) (wd : (Cond.declares y).before a0 Z = true) (ws : (Cond.selects C y y).before a0 Z = true) (wst : (Cond.instanceMethod y).before a0 Z = true) (wi : (Cond.initialized y.cls).before a0 Z = true) (wc : (Cond.code y bytes maxL ret).before a0 Z = true) (hy : y.cls ≠ "java/lang/invoke/MethodHandle" ∧ y.cls ≠ "java/lang/invoke/VarHandle")
    (hM : MetFree l y (head1 [Cond.code y bytes maxL ret] rm) (fun b U => b = (.ref a :: argsL).toArray ∧ Z.Warmed39 U.vm ∧ U.heap = h) (fun _ _ _ _ _ => True) (fun _ U o U' => ∃ w L, o = .returned w ∧ Q w U'.heap L ∧ FrameEnd U o U' L rm.cells rm.slots))
    (hf : rm.frames + 1 ≤ R.frames) (hl : W + (maxL + 11) + rm.locals ≤ R.locals) (hcells : cells + rm.cells ≤ R.cells) (hslots : slots + rm.slots ≤ R.slots)
    {g : JFrame} (hg : g.method = m) (hsize : g.locals.size = c.maxLocals) (hlen : ∀ sig, parseMethodDescriptor y.desc = some sig → argsL.length = sig.parameters.length) (hstack : g.stack = argsL.reverse ++ .ref a :: rest) (hW : 2 * g.monitorRoom + (rest.map fun v => v.category).sum ≤ W) (hdg : decode c.code g.pc = .ok (.invokevirtual index, 3)) :
    ∃ w T' L, Q w T'.heap L ∧ Stand p l e R s m args below meth c T' (locs ++ L) (cells + rm.cells) (slots + rm.slots) ∧ ∀ t, Steps p.tables e below (T'.setTop { g with pc := g.pc + 3, stack := w.toList ++ rest }) t → Steps p.tables e below (T.setTop g) t := by
  have hB := backOf (R := R) (p := p) (e := e) (below := below) (args := args) (len := 3) (W := W) (Q := Q) hM hZ wc wi hf hl
  obtain ⟨cq, kq, qa, qb, qc⟩ := isOf hZ eT E
  obtain ⟨w, vm₁, ⟨U, Lc, k1, n1⟩, -, X', ⟨L, hQ, hL, hC, hS⟩, st⟩ := X.virtualBack hx (y := y) (z := y) hown (mvT hZ wl) (mvT hZ wd) (notFace_of_selects (args := #[]) (mvT hZ ws)) (mvT hZ ws) (mvT hZ wst) hy hB qa qc (g := g) hg hsize (Steps.refl _) hlen hstack hW hdg (fun _ _ => ⟨rfl, eT, hcells, hslots⟩)
  dsimp only [Pt.U, Pt.locs, Pt.cells, Pt.slots] at X' hQ hL hC hS st
  subst hL hC hS
  exact ⟨w, U, L, hQ, X', fun t k => st.trans k⟩
/-- a call that left nothing behind -/
theorem own_clean {h : Heap} {w v : Option Value} {T' : State} {L : List Loc} {k0 n0 : Nat} (q : w = v ∧ L = [] ∧ T'.heap = h) (X : Stand p l e R s m args below meth c T' (locs ++ L) (cells + k0) (slots + n0)) (hk : k0 = 0) (hn : n0 = 0) : T'.heap = h ∧ Stand p l e R s m args below meth c T' locs cells slots := by
  obtain ⟨-, rfl, hh⟩ := q
  subst hk hn
  rw [List.append_nil] at X
  exact ⟨hh, X⟩
theorem own_nin {a b : Addr} (q : b ≠ a) : b ∉ [a] := fun h => q (List.mem_singleton.mp h)
theorem own_kt {h0 : Heap} {ws : List Addr} {a : Addr} (q : a ∈ ws ∨ h0.size ≤ a) : ∀ x ∈ [a], x ∈ ws ∨ h0.size ≤ x := fun x hx => by
  cases List.mem_singleton.mp hx; exact q
end New
end Jvm.RoadKit
namespace Jvm.Pilot.@@N@@
open Jvm Jvm.ClassFile Sem Op Lib Jvm.Free Jvm.Stand Jvm.LawKit Jvm.RoadKit Bundle Jvm.Pilot.@@N@@.Jvm.D
/-! plain facts on ints and longs -/
theorem own_char16 (u : UInt16) : (u.toUInt32.toInt32).toInt = u.toNat := by
  have h := u.toNat_lt
  show BitVec.toInt u.toUInt32.toBitVec = _
  rw [BitVec.toInt_eq_toNat_of_lt (by simp; omega)]
  simp
theorem own_char (y : Int32) : 0 ≤ (y.toUInt32.toUInt16.toUInt32.toInt32).toInt ∧ (y.toUInt32.toUInt16.toUInt32.toInt32).toInt < 65536 := by
  rw [own_char16]
  have h := y.toUInt32.toUInt16.toNat_lt
  omega
theorem own_fin32 {P : Int32 → Prop} (n : Nat) (h : ∀ k : Fin n, P (Int32.ofNat k)) (c : Int32) (h0 : 0 ≤ c.toInt) (h1 : c.toInt < n) : P c := by
  have e : c = Int32.ofNat c.toInt.toNat := by
    apply Int32.toInt_inj.mp
    have hb := c.toInt_lt
    rw [Int32.toInt_ofNat_of_lt (by omega)]
    omega
  rw [e]
  exact h ⟨c.toInt.toNat, by omega⟩
theorem own_lt32 (x y : Int32) : (x < y) ↔ x.toInt < y.toInt := Int32.lt_iff_toInt_lt
theorem own_eq32 (x y : Int32) : (x = y) ↔ x.toInt = y.toInt := Int32.toInt_inj.symm
theorem own_lt64 (x y : Int64) : (x < y) ↔ x.toInt < y.toInt := Int64.lt_iff_toInt_lt
theorem own_eq64 (x y : Int64) : (x = y) ↔ x.toInt = y.toInt := Int64.toInt_inj.symm
theorem d4_0 : decode prog_15_method_5_code 0 = .ok (.lload_n 1, 1) := by decide +kernel
theorem d4_1 : decode prog_15_method_5_code 1 = .ok (.lconst 1, 1) := by decide +kernel
theorem d4_2 : decode prog_15_method_5_code 2 = .ok (.lcmp, 1) := by decide +kernel
theorem d4_3 : decode prog_15_method_5_code 3 = .ok (.ifCond .lt 17, 3) := by decide +kernel
theorem d4_6 : decode prog_15_method_5_code 6 = .ok (.lload_n 1, 1) := by decide +kernel
theorem d4_7 : decode prog_15_method_5_code 7 = .ok (.aload_n 0, 1) := by decide +kernel
theorem d4_8 : decode prog_15_method_5_code 8 = .ok (.getfield 16, 3) := by decide +kernel
theorem d4_11 : decode prog_15_method_5_code 11 = .ok (.i2l, 1) := by decide +kernel
theorem d4_12 : decode prog_15_method_5_code 12 = .ok (.lcmp, 1) := by decide +kernel
theorem d4_13 : decode prog_15_method_5_code 13 = .ok (.ifCond .gt 7, 3) := by decide +kernel
theorem d4_16 : decode prog_15_method_5_code 16 = .ok (.iconst 1, 1) := by decide +kernel
theorem d4_17 : decode prog_15_method_5_code 17 = .ok (.goto 4, 3) := by decide +kernel
theorem d4_20 : decode prog_15_method_5_code 20 = .ok (.iconst 0, 1) := by decide +kernel
theorem d4_21 : decode prog_15_method_5_code 21 = .ok (.ireturn, 1) := by decide +kernel
theorem pn_4 : plainName "com/example/nodus/nodus/FullMesh" = true := by first | (simp [plainName, overriddenIn]; done) | decide +kernel
theorem pd_4 : parseMethodDescriptor "(J)Z" = some ⟨[.long], (some .boolean)⟩ := by decide +kernel
theorem ef_4 (m : MethodId) (x0 : Addr) (x1 : Int64) : entryFrame m #[(.ref x0), (.long x1)] 3 = mkF m 0 #[.val (.ref x0), .val (.long x1), .second] [] := by first | (simp [entryFrame, mkF, argsToLocals, Value.category]; done) | rfl
def own_f4 (x1 : Int64) (sz : Int32) : Int32 := (if x1 < (1 : Int64) then (0 : Int32) else (if sz.toInt64 < x1 then (0 : Int32) else (1 : Int32)))
def own_F4 (Z : State) (x0 : Addr) (x1 : Int64) (sz : Int32) (h0 : Heap) (v : Option Value) (h : Heap) (L : List Loc) : Prop := v = some (.int (own_f4 x1 sz)) ∧ L = [] ∧ h = h0
set_option maxRecDepth 65536 in
set_option maxHeartbeats 40000000 in
theorem own_m4 (l : Launch) (Z : State) (a0 : Array Value) (hw : ∀ d ∈ tables_1, d.before a0 Z = true) (ws : List Jvm.Cond) (x0 : Addr) (x1 : Int64) (sz : Int32) (h0 : Heap) (P0 : Fld Z h0 x0 "com/example/nodus/nodus/FullMesh" "size" "I" (.int sz))  :
    MetFree l (⟨"com/example/nodus/nodus/FullMesh", "contains", "(J)Z"⟩ : MethodName) (head1 (Jvm.Cond.code (⟨"com/example/nodus/nodus/FullMesh", "contains", "(J)Z"⟩ : MethodName) prog_15_method_5_code 3 (some .boolean) :: ws) ({ frames := 0, cells := 0, slots := 0, locals := 0 } : Room)) (fun a U => a = #[(.ref x0), (.long x1)] ∧ Z.Warmed39 U.vm ∧ U.heap = h0) (fun _ _ _ _ _ => True) (fun _ U o U' => ∃ v L, o = .returned v ∧ own_F4 Z x0 x1 sz h0 v U'.heap L ∧ FrameEnd U o U' L ({ frames := 0, cells := 0, slots := 0, locals := 0 } : Room).cells ({ frames := 0, cells := 0, slots := 0, locals := 0 } : Room).slots) := by
  refine MetFree.of_bodySF (plainFor_of_name pn_4) hisR ?_
  intro p e s m args below meth c s₁ Bd hml0 hP hK
  obtain ⟨rfl, hZ, hh⟩ := hP
  have hx := Bd.exec
  have hby := Bd.bytes
  have hml : c.maxLocals = 3 := hml0
  have hown : s.vm.findClass "com/example/nodus/nodus/FullMesh" = some m.cls := findClass_of_methodNamed Bd.named
  have hnm := (name_of_methodNamed Bd.named Bd.method).1
  have X0 : Stand p l e ({ frames := 0, cells := 0, slots := 0, locals := 0 } : Room) s m #[(.ref x0), (.long x1)] below meth c s₁ [] 0 0 := Stand.of_body Bd
  have e0 : s₁.heap = h0 := by rw [← hh, Bd.state]; rfl
  have hgo : own_Goes p e below s (own_F4 Z x0 x1 sz h0) 0 0 (s₁.setTop (mkF m 0 #[.val (.ref x0), .val (.long x1), .second] [])) := by
    refine own_Goes.step (fun t k => XT.lloadN X0.here hx rfl (hb hby d4_0) rfl k) ?_
    show own_Goes p e below s (own_F4 Z x0 x1 sz h0) 0 0 (s₁.setTop (mkF m 1 #[.val (.ref x0), .val (.long x1), .second] [(.long x1)]))
    refine own_Goes.step (fun t k => XT.lconstV X0.here hx rfl (1 : Int64) (hb hby d4_1) (by decide) k) ?_
    show own_Goes p e below s (own_F4 Z x0 x1 sz h0) 0 0 (s₁.setTop (mkF m 2 #[.val (.ref x0), .val (.long x1), .second] [(.long (1 : Int64)), (.long x1)]))
    refine own_Goes.step (fun t k => XT.lcmp X0.here hx rfl (hb hby d4_2) rfl k) ?_
    show own_Goes p e below s (own_F4 Z x0 x1 sz h0) 0 0 (s₁.setTop (mkF m 3 #[.val (.ref x0), .val (.long x1), .second] [(.int (XT.cmpL x1 (1 : Int64)))]))
    by_cases hc1 : x1 < (1 : Int64)
    · refine own_Goes.step (fun t k => XS.ifYes X0.here hx rfl (pc0 := 3) (pc' := 20) rfl (hb hby d4_3) rfl (XT.ll_lt_t hc1) (by decide) (by decide) k) ?_
      show own_Goes p e below s (own_F4 Z x0 x1 sz h0) 0 0 (s₁.setTop (mkF m 20 #[.val (.ref x0), .val (.long x1), .second] []))
      refine own_Goes.step (fun t k => XT.iconstV X0.here hx rfl (0 : Int32) (hb hby d4_20) (by decide) k) ?_
      show own_Goes p e below s (own_F4 Z x0 x1 sz h0) 0 0 (s₁.setTop (mkF m 21 #[.val (.ref x0), .val (.long x1), .second] [(.int (0 : Int32))]))
      exact own_endN X0 hx Bd.notSynchronized (t := .boolean) Bd.returns (by simp) (hb hby d4_21) ⟨(congrArg (fun z => some (Value.int z)) (show (0 : Int32) = own_f4 x1 sz from by simp only [own_f4, if_pos hc1])), rfl, e0⟩ (by decide) (by decide)
    · refine own_Goes.step (fun t k => XS.ifNo X0.here hx rfl (hb hby d4_3) rfl (XT.ll_lt_f hc1) k) ?_
      show own_Goes p e below s (own_F4 Z x0 x1 sz h0) 0 0 (s₁.setTop (mkF m 6 #[.val (.ref x0), .val (.long x1), .second] []))
      refine own_Goes.step (fun t k => XT.lloadN X0.here hx rfl (hb hby d4_6) rfl k) ?_
      show own_Goes p e below s (own_F4 Z x0 x1 sz h0) 0 0 (s₁.setTop (mkF m 7 #[.val (.ref x0), .val (.long x1), .second] [(.long x1)]))
      refine own_Goes.step (fun t k => XS.aloadN X0.here hx rfl (hb hby d4_7) rfl rfl k) ?_
      show own_Goes p e below s (own_F4 Z x0 x1 sz h0) 0 0 (s₁.setTop (mkF m 8 #[.val (.ref x0), .val (.long x1), .second] [(.ref x0), (.long x1)]))
      obtain ⟨T2, X2, e2, st2⟩ := getF X0 hx hZ hown (host := "") (Or.inl (hw _ (List.mem_of_getElem? (i := 14) rfl))) Via.refl e0 P0 (g := (mkF m 8 #[.val (.ref x0), .val (.long x1), .second] [(.ref x0), (.long x1)])) rfl rfl (hb hby d4_8)
      refine own_Goes.step st2 ?_
      show own_Goes p e below s (own_F4 Z x0 x1 sz h0) 0 0 (T2.setTop (mkF m 11 #[.val (.ref x0), .val (.long x1), .second] [(.int sz), (.long x1)]))
      refine own_Goes.step (fun t k => XT.i2l X2.here hx rfl (hb hby d4_11) rfl k) ?_
      show own_Goes p e below s (own_F4 Z x0 x1 sz h0) 0 0 (T2.setTop (mkF m 12 #[.val (.ref x0), .val (.long x1), .second] [(.long sz.toInt64), (.long x1)]))
      refine own_Goes.step (fun t k => XT.lcmp X2.here hx rfl (hb hby d4_12) rfl k) ?_
      show own_Goes p e below s (own_F4 Z x0 x1 sz h0) 0 0 (T2.setTop (mkF m 13 #[.val (.ref x0), .val (.long x1), .second] [(.int (XT.cmpL x1 sz.toInt64))]))
      by_cases hc3 : sz.toInt64 < x1
      · refine own_Goes.step (fun t k => XS.ifYes X2.here hx rfl (pc0 := 13) (pc' := 20) rfl (hb hby d4_13) rfl (XT.ll_gt_t hc3) (by decide) (by decide) k) ?_
        show own_Goes p e below s (own_F4 Z x0 x1 sz h0) 0 0 (T2.setTop (mkF m 20 #[.val (.ref x0), .val (.long x1), .second] []))
        refine own_Goes.step (fun t k => XT.iconstV X2.here hx rfl (0 : Int32) (hb hby d4_20) (by decide) k) ?_
        show own_Goes p e below s (own_F4 Z x0 x1 sz h0) 0 0 (T2.setTop (mkF m 21 #[.val (.ref x0), .val (.long x1), .second] [(.int (0 : Int32))]))
        exact own_endN X2 hx Bd.notSynchronized (t := .boolean) Bd.returns (by simp) (hb hby d4_21) ⟨(congrArg (fun z => some (Value.int z)) (show (0 : Int32) = own_f4 x1 sz from by simp only [own_f4, if_neg hc1, if_pos hc3])), rfl, e2⟩ (by decide) (by decide)
      · refine own_Goes.step (fun t k => XS.ifNo X2.here hx rfl (hb hby d4_13) rfl (XT.ll_gt_f hc3) k) ?_
        show own_Goes p e below s (own_F4 Z x0 x1 sz h0) 0 0 (T2.setTop (mkF m 16 #[.val (.ref x0), .val (.long x1), .second] []))
        refine own_Goes.step (fun t k => XT.iconstV X2.here hx rfl (1 : Int32) (hb hby d4_16) (by decide) k) ?_
        show own_Goes p e below s (own_F4 Z x0 x1 sz h0) 0 0 (T2.setTop (mkF m 17 #[.val (.ref x0), .val (.long x1), .second] [(.int (1 : Int32))]))
        refine own_Goes.step (fun t k => XS.goto X2.here hx rfl (pc0 := 17) (pc' := 21) rfl (hb hby d4_17) (by decide) (by decide) k) ?_
        show own_Goes p e below s (own_F4 Z x0 x1 sz h0) 0 0 (T2.setTop (mkF m 21 #[.val (.ref x0), .val (.long x1), .second] [(.int (1 : Int32))]))
        exact own_endN X2 hx Bd.notSynchronized (t := .boolean) Bd.returns (by simp) (hb hby d4_21) ⟨(congrArg (fun z => some (Value.int z)) (show (1 : Int32) = own_f4 x1 sz from by simp only [own_f4, if_neg hc1, if_neg hc3])), rfl, e2⟩ (by decide) (by decide)
  obtain ⟨t2, o2, q1, q2, q3, q4⟩ := hgo
  exact ⟨t2, o2, castTop (ef_4 m x0 x1) q1, q2, q3, q4⟩
theorem d2_0 : decode prog_15_method_1_code 0 = .ok (.aload_n 0, 1) := by decide +kernel
theorem d2_1 : decode prog_15_method_1_code 1 = .ok (.invokespecial 1, 3) := by decide +kernel
theorem d2_4 : decode prog_15_method_1_code 4 = .ok (.iload_n 1, 1) := by decide +kernel
theorem d2_5 : decode prog_15_method_1_code 5 = .ok (.iconst 1, 1) := by decide +kernel
theorem d2_6 : decode prog_15_method_1_code 6 = .ok (.if_icmp .ge 17, 3) := by decide +kernel
theorem d2_9 : decode prog_15_method_1_code 9 = .ok (.new 7, 3) := by decide +kernel
theorem d2_12 : decode prog_15_method_1_code 12 = .ok (.dup, 1) := by decide +kernel
theorem d2_13 : decode prog_15_method_1_code 13 = .ok (.iload_n 1, 1) := by decide +kernel
theorem d2_19 : decode prog_15_method_1_code 19 = .ok (.invokespecial 13, 3) := by decide +kernel
theorem d2_22 : decode prog_15_method_1_code 22 = .ok (.athrow, 1) := by decide +kernel
theorem d2_23 : decode prog_15_method_1_code 23 = .ok (.aload_n 0, 1) := by decide +kernel
theorem d2_24 : decode prog_15_method_1_code 24 = .ok (.iload_n 1, 1) := by decide +kernel
theorem d2_25 : decode prog_15_method_1_code 25 = .ok (.putfield 16, 3) := by decide +kernel
theorem d2_28 : decode prog_15_method_1_code 28 = .ok (.return_, 1) := by decide +kernel
theorem pn_2 : plainName "com/example/nodus/nodus/FullMesh" = true := by first | (simp [plainName, overriddenIn]; done) | decide +kernel
theorem pd_2 : parseMethodDescriptor "(I)V" = some ⟨[.int], none⟩ := by decide +kernel
theorem ef_2 (m : MethodId) (x0 : Addr) (x1 : Int32) : entryFrame m #[(.ref x0), (.int x1)] 2 = mkF m 0 #[.val (.ref x0), .val (.int x1)] [] := by first | (simp [entryFrame, mkF, argsToLocals, Value.category]; done) | rfl
def own_f2_size (x1 : Int32) : Int32 := x1
def own_F2 (Z : State) (x0 : Addr) (x1 : Int32)  (n0 : Nat) (h0 : Heap) (v : Option Value) (h : Heap) (L : List Loc) : Prop := v = none ∧ Fr n0 L ∧ Keep h0 h [x0] ∧ Exa Z h x0 "com/example/nodus/nodus/FullMesh" ∧ Fld Z h x0 "com/example/nodus/nodus/FullMesh" "size" "I" (.int (own_f2_size x1))
set_option maxRecDepth 65536 in
set_option maxHeartbeats 40000000 in
theorem own_m2 (l : Launch) (Z : State) (a0 : Array Value) (hw : ∀ d ∈ tables_1, d.before a0 Z = true) (ws : List Jvm.Cond) (x0 : Addr) (x1 : Int32)  (n0 : Nat) (h0 : Heap) (E0 : Exa Z h0 x0 "com/example/nodus/nodus/FullMesh") (g0 : n0 ≤ x0) (P0 : Fld Z h0 x0 "com/example/nodus/nodus/FullMesh" "size" "I" (.int (0 : Int32))) (hpos : ¬ x1 < (1 : Int32)) :
    MetFree l (⟨"com/example/nodus/nodus/FullMesh", "<init>", "(I)V"⟩ : MethodName) (head1 (Jvm.Cond.code (⟨"com/example/nodus/nodus/FullMesh", "<init>", "(I)V"⟩ : MethodName) prog_15_method_1_code 2 none :: ws) ({ frames := 1, cells := 0, slots := 0, locals := 12 } : Room)) (fun a U => a = #[(.ref x0), (.int x1)] ∧ Z.Warmed39 U.vm ∧ U.heap = h0) (fun _ _ _ _ _ => True) (fun _ U o U' => ∃ v L, o = .returned v ∧ own_F2 Z x0 x1 n0 h0 v U'.heap L ∧ FrameEnd U o U' L ({ frames := 1, cells := 0, slots := 0, locals := 12 } : Room).cells ({ frames := 1, cells := 0, slots := 0, locals := 12 } : Room).slots) := by
  refine MetFree.of_bodySF (plainFor_of_name pn_2) hisR ?_
  intro p e s m args below meth c s₁ Bd hml0 hP hK
  obtain ⟨rfl, hZ, hh⟩ := hP
  have hx := Bd.exec
  have hby := Bd.bytes
  have hml : c.maxLocals = 2 := hml0
  have hown : s.vm.findClass "com/example/nodus/nodus/FullMesh" = some m.cls := findClass_of_methodNamed Bd.named
  have hnm := (name_of_methodNamed Bd.named Bd.method).1
  have X0 : Stand p l e ({ frames := 1, cells := 0, slots := 0, locals := 12 } : Room) s m #[(.ref x0), (.int x1)] below meth c s₁ [] 0 0 := Stand.of_body Bd
  have e0 : s₁.heap = h0 := by rw [← hh, Bd.state]; rfl
  have N0 := Fr.nil n0
  have K0 : Keep h0 h0 [x0] := Keep.refl h0 [x0]
  have Z0 : n0 ≤ h0.size := Nat.le_trans g0 (Nat.le_of_lt E0.lt)
  have hgo : own_Goes p e below s (own_F2 Z x0 x1 n0 h0) 0 0 (s₁.setTop (mkF m 0 #[.val (.ref x0), .val (.int x1)] [])) := by
    refine own_Goes.step (fun t k => XS.aloadN X0.here hx rfl (hb hby d2_0) rfl rfl k) ?_
    show own_Goes p e below s (own_F2 Z x0 x1 n0 h0) 0 0 (s₁.setTop (mkF m 1 #[.val (.ref x0), .val (.int x1)] [(.ref x0)]))
    obtain ⟨T1, X1, e1, st1⟩ := initO X0 hx hZ hown (hw _ (List.mem_of_getElem? (i := 11) rfl)) (hw _ (List.mem_of_getElem? (i := 12) rfl)) (hw _ (List.mem_of_getElem? (i := 13) rfl)) e0 (g := (mkF m 1 #[.val (.ref x0), .val (.int x1)] [(.ref x0)])) rfl (by rw [hml]; rfl) rfl (hb hby d2_1) (by decide) (W := 0) (by show 2 * 0 + _ ≤ _; exact Nat.le_of_eq rfl) (by decide)
    refine own_Goes.step st1 ?_
    show own_Goes p e below s (own_F2 Z x0 x1 n0 h0) 0 0 (T1.setTop (mkF m 4 #[.val (.ref x0), .val (.int x1)] []))
    refine own_Goes.step (fun t k => XS.iloadN X1.here hx rfl (hb hby d2_4) rfl k) ?_
    show own_Goes p e below s (own_F2 Z x0 x1 n0 h0) 0 0 (T1.setTop (mkF m 5 #[.val (.ref x0), .val (.int x1)] [(.int x1)]))
    refine own_Goes.step (fun t k => XT.iconstV X1.here hx rfl (1 : Int32) (hb hby d2_5) (by decide) k) ?_
    show own_Goes p e below s (own_F2 Z x0 x1 n0 h0) 0 0 (T1.setTop (mkF m 6 #[.val (.ref x0), .val (.int x1)] [(.int (1 : Int32)), (.int x1)]))
    refine own_Goes.step (fun t k => XS.icmpYes X1.here hx rfl (pc0 := 6) (pc' := 23) rfl (hb hby d2_6) rfl (XT.ii_ge_t (hpos)) (by decide) (by decide) k) ?_
    show own_Goes p e below s (own_F2 Z x0 x1 n0 h0) 0 0 (T1.setTop (mkF m 23 #[.val (.ref x0), .val (.int x1)] []))
    refine own_Goes.step (fun t k => XS.aloadN X1.here hx rfl (hb hby d2_23) rfl rfl k) ?_
    show own_Goes p e below s (own_F2 Z x0 x1 n0 h0) 0 0 (T1.setTop (mkF m 24 #[.val (.ref x0), .val (.int x1)] [(.ref x0)]))
    refine own_Goes.step (fun t k => XS.iloadN X1.here hx rfl (hb hby d2_24) rfl k) ?_
    show own_Goes p e below s (own_F2 Z x0 x1 n0 h0) 0 0 (T1.setTop (mkF m 25 #[.val (.ref x0), .val (.int x1)] [(.int x1), (.ref x0)]))
    obtain ⟨T2, h2, X2, e2, W2, st2⟩ := putF X1 hx hZ hown (host := "") (Or.inl (hw _ (List.mem_of_getElem? (i := 14) rfl))) Via.refl e1 (v := (.int x1)) P0 E0 (Or.inr ⟨(hw _ (List.mem_of_getElem? (i := 15) rfl)), rfl, hnm⟩) (hw _ (List.mem_of_getElem? (i := 6) rfl)) (ty := .int) (by decide) rfl rfl (g := (mkF m 25 #[.val (.ref x0), .val (.int x1)] [(.int x1), (.ref x0)])) rfl rfl (hb hby d2_25)
    refine own_Goes.step st2 ?_
    have f3 := E0.wr W2
    have f4 := P0.same W2
    have K5 := K0.wr W2 (Or.inl (List.mem_of_getElem? (i := 0) rfl))
    have N6 := Fr.snoc X2 N0 g0
    have Z7 : n0 ≤ h2.size := Nat.le_trans Z0 (Keep.of_wr W2).1
    show own_Goes p e below s (own_F2 Z x0 x1 n0 h0) 0 0 (T2.setTop (mkF m 28 #[.val (.ref x0), .val (.int x1)] []))
    refine own_endV X2 hx Bd.notSynchronized Bd.returns (hb hby d2_28) ?_ (by decide) (by decide)
    show own_F2 Z x0 x1 n0 h0 _ T2.heap _
    rw [e2]
    exact ⟨rfl, N6, K5, f3, f4⟩
  obtain ⟨t2, o2, q1, q2, q3, q4⟩ := hgo
  exact ⟨t2, o2, castTop (ef_2 m x0 x1) q1, q2, q3, q4⟩
theorem d1_0 : decode jdk_29_method_65_code 0 = .ok (.iload_n 0, 1) := by decide +kernel
theorem d1_1 : decode jdk_29_method_65_code 1 = .ok (.iload_n 1, 1) := by decide +kernel
theorem d1_2 : decode jdk_29_method_65_code 2 = .ok (.if_icmp .lt 7, 3) := by decide +kernel
theorem d1_5 : decode jdk_29_method_65_code 5 = .ok (.iload_n 0, 1) := by decide +kernel
theorem d1_6 : decode jdk_29_method_65_code 6 = .ok (.goto 4, 3) := by decide +kernel
theorem d1_9 : decode jdk_29_method_65_code 9 = .ok (.iload_n 1, 1) := by decide +kernel
theorem d1_10 : decode jdk_29_method_65_code 10 = .ok (.ireturn, 1) := by decide +kernel
theorem pn_1 : plainFor (⟨"java/lang/Math", "max", "(II)I"⟩ : MethodName) = true := by decide +kernel
theorem pd_1 : parseMethodDescriptor "(II)I" = some ⟨[.int, .int], (some .int)⟩ := by decide +kernel
theorem ef_1 (m : MethodId) (x0 : Int32) (x1 : Int32) : entryFrame m #[(.int x0), (.int x1)] 2 = mkF m 0 #[.val (.int x0), .val (.int x1)] [] := by first | (simp [entryFrame, mkF, argsToLocals, Value.category]; done) | rfl
def own_f1 (x0 : Int32) (x1 : Int32) : Int32 := (if x0 < x1 then x1 else x0)
def own_F1 (Z : State) (x0 : Int32) (x1 : Int32)  (h0 : Heap) (v : Option Value) (h : Heap) (L : List Loc) : Prop := v = some (.int (own_f1 x0 x1)) ∧ L = [] ∧ h = h0
set_option maxRecDepth 65536 in
set_option maxHeartbeats 40000000 in
theorem own_m1 (l : Launch) (Z : State) (a0 : Array Value) (hw : ∀ d ∈ tables_1, d.before a0 Z = true) (ws : List Jvm.Cond) (x0 : Int32) (x1 : Int32)  (h0 : Heap)   :
    MetFree l (⟨"java/lang/Math", "max", "(II)I"⟩ : MethodName) (head1 (Jvm.Cond.code (⟨"java/lang/Math", "max", "(II)I"⟩ : MethodName) jdk_29_method_65_code 2 (some .int) :: ws) ({ frames := 0, cells := 0, slots := 0, locals := 0 } : Room)) (fun a U => a = #[(.int x0), (.int x1)] ∧ Z.Warmed39 U.vm ∧ U.heap = h0) (fun _ _ _ _ _ => True) (fun _ U o U' => ∃ v L, o = .returned v ∧ own_F1 Z x0 x1 h0 v U'.heap L ∧ FrameEnd U o U' L ({ frames := 0, cells := 0, slots := 0, locals := 0 } : Room).cells ({ frames := 0, cells := 0, slots := 0, locals := 0 } : Room).slots) := by
  refine MetFree.of_bodySF pn_1 hisR ?_
  intro p e s m args below meth c s₁ Bd hml0 hP hK
  obtain ⟨rfl, hZ, hh⟩ := hP
  have hx := Bd.exec
  have hby := Bd.bytes
  have hml : c.maxLocals = 2 := hml0
  have hown : s.vm.findClass "java/lang/Math" = some m.cls := findClass_of_methodNamed Bd.named
  have hnm := (name_of_methodNamed Bd.named Bd.method).1
  have X0 : Stand p l e ({ frames := 0, cells := 0, slots := 0, locals := 0 } : Room) s m #[(.int x0), (.int x1)] below meth c s₁ [] 0 0 := Stand.of_body Bd
  have e0 : s₁.heap = h0 := by rw [← hh, Bd.state]; rfl
  have hgo : own_Goes p e below s (own_F1 Z x0 x1 h0) 0 0 (s₁.setTop (mkF m 0 #[.val (.int x0), .val (.int x1)] [])) := by
    refine own_Goes.step (fun t k => XS.iloadN X0.here hx rfl (hb hby d1_0) rfl k) ?_
    show own_Goes p e below s (own_F1 Z x0 x1 h0) 0 0 (s₁.setTop (mkF m 1 #[.val (.int x0), .val (.int x1)] [(.int x0)]))
    refine own_Goes.step (fun t k => XS.iloadN X0.here hx rfl (hb hby d1_1) rfl k) ?_
    show own_Goes p e below s (own_F1 Z x0 x1 h0) 0 0 (s₁.setTop (mkF m 2 #[.val (.int x0), .val (.int x1)] [(.int x1), (.int x0)]))
    by_cases hc1 : x0 < x1
    · refine own_Goes.step (fun t k => XS.icmpYes X0.here hx rfl (pc0 := 2) (pc' := 9) rfl (hb hby d1_2) rfl (XT.ii_lt_t hc1) (by decide) (by decide) k) ?_
      show own_Goes p e below s (own_F1 Z x0 x1 h0) 0 0 (s₁.setTop (mkF m 9 #[.val (.int x0), .val (.int x1)] []))
      refine own_Goes.step (fun t k => XS.iloadN X0.here hx rfl (hb hby d1_9) rfl k) ?_
      show own_Goes p e below s (own_F1 Z x0 x1 h0) 0 0 (s₁.setTop (mkF m 10 #[.val (.int x0), .val (.int x1)] [(.int x1)]))
      exact own_endI X0 hx Bd.notSynchronized Bd.returns (hb hby d1_10) ⟨(congrArg (fun z => some (Value.int z)) (show x1 = own_f1 x0 x1 from by simp only [own_f1, if_pos hc1])), rfl, e0⟩ (by decide) (by decide)
    · refine own_Goes.step (fun t k => XS.icmpNo X0.here hx rfl (hb hby d1_2) rfl (XT.ii_lt_f hc1) k) ?_
      show own_Goes p e below s (own_F1 Z x0 x1 h0) 0 0 (s₁.setTop (mkF m 5 #[.val (.int x0), .val (.int x1)] []))
      refine own_Goes.step (fun t k => XS.iloadN X0.here hx rfl (hb hby d1_5) rfl k) ?_
      show own_Goes p e below s (own_F1 Z x0 x1 h0) 0 0 (s₁.setTop (mkF m 6 #[.val (.int x0), .val (.int x1)] [(.int x0)]))
      refine own_Goes.step (fun t k => XS.goto X0.here hx rfl (pc0 := 6) (pc' := 10) rfl (hb hby d1_6) (by decide) (by decide) k) ?_
      show own_Goes p e below s (own_F1 Z x0 x1 h0) 0 0 (s₁.setTop (mkF m 10 #[.val (.int x0), .val (.int x1)] [(.int x0)]))
      exact own_endI X0 hx Bd.notSynchronized Bd.returns (hb hby d1_10) ⟨(congrArg (fun z => some (Value.int z)) (show x0 = own_f1 x0 x1 from by simp only [own_f1, if_neg hc1])), rfl, e0⟩ (by decide) (by decide)
  obtain ⟨t2, o2, q1, q2, q3, q4⟩ := hgo
  exact ⟨t2, o2, castTop (ef_1 m x0 x1) q1, q2, q3, q4⟩
theorem pn_0 : plainName "com/example/nodus/nodus/FullMeshContainsPinLaw" = true := by first | (simp [plainName, overriddenIn]; done) | decide +kernel
theorem pd_0 : parseMethodDescriptor "(IJII)Z" = some ⟨[.int, .long, .int, .int], (some .boolean)⟩ := by decide +kernel
theorem ef_0 (m : MethodId) (x0 : Int32) (x1 : Int64) (x2 : Int32) (x3 : Int32) : entryFrame m #[(.int x0), (.long x1), (.int x2), (.int x3)] maxLocals = mkF m 0 #[.val (.int x0), .val (.long x1), .second, .val (.int x2), .val (.int x3), .unset, .unset, .unset, .unset, .unset, .unset, .unset] [] := by first | (simp [entryFrame, mkF, argsToLocals, Value.category, maxLocals]; done) | rfl
def own_f0_1 (x0 : Int32) (x1 : Int64) (x2 : Int32) (x3 : Int32) : Int32 := (if ((x2 >>> ((2 : Int32) &&& 31)) &&& (1 : Int32)) = (0 : Int32) then (own_f1 (1 : Int32) (x0 &&& (2147483647 : Int32))) else ((1 : Int32) + (x0 &&& (3 : Int32))))
def own_f0_2 (x0 : Int32) (x1 : Int64) (x2 : Int32) (x3 : Int32) : Int64 := (((own_f0_1 x0 x1 x2 x3).toInt64) + (((x3 &&& (7 : Int32)) - (3 : Int32)).toInt64))
def own_f0_3 (x0 : Int32) (x1 : Int64) (x2 : Int32) (x3 : Int32) : Int64 := (if ((x3 >>> ((3 : Int32) &&& 31)) &&& (1 : Int32)) = (0 : Int32) then ((-9223372036854775808 : Int64) + ((x3 &&& (7 : Int32)).toInt64)) else ((9223372036854775807 : Int64) - ((x3 &&& (7 : Int32)).toInt64)))
def own_f0_4 (x0 : Int32) (x1 : Int64) (x2 : Int32) (x3 : Int32) : Int64 := (if (x2 &&& (3 : Int32)) = (0 : Int32) then x1 else (if (x2 &&& (3 : Int32)) = (1 : Int32) then (own_f0_2 x0 x1 x2 x3) else (if (x2 &&& (3 : Int32)) = (2 : Int32) then ((x3 &&& (7 : Int32)) - (3 : Int32)).toInt64 else (own_f0_3 x0 x1 x2 x3))))
def own_f0_5 (x0 : Int32) (x1 : Int64) (x2 : Int32) (x3 : Int32) : Int32 := (if (0 : Int64) < (own_f0_4 x0 x1 x2 x3) then (if ((own_f0_4 x0 x1 x2 x3) - (1 : Int64)) < ((own_f0_1 x0 x1 x2 x3).toInt64) then (1 : Int32) else (0 : Int32)) else (0 : Int32))
def own_f0 (x0 : Int32) (x1 : Int64) (x2 : Int32) (x3 : Int32) : Int32 := (if (own_f4 (own_f0_4 x0 x1 x2 x3) (own_f2_size (own_f0_1 x0 x1 x2 x3))) = (own_f0_5 x0 x1 x2 x3) then (1 : Int32) else (0 : Int32))
theorem own_sz (x0 : Int32) (x1 : Int64) (x2 x3 : Int32) : 1 ≤ (own_f0_1 x0 x1 x2 x3).toInt := by
  have k1 : (1 : Int32).toInt = 1 := rfl
  unfold own_f0_1
  split
  · unfold own_f1
    split
    · next h => rw [own_lt32, k1] at h; omega
    · decide
  · have a : (x0 &&& (3 : Int32)).toInt = x0.toInt % 2 ^ 2 := Jvm.Kit.i32_mask x0 _ (k := 2) (by decide) (by decide)
    rw [Jvm.Kit.i32_add (by rw [k1]; omega) (by rw [k1]; omega), k1]
    omega
theorem own_n1 (x0 : Int32) (x1 : Int64) (x2 x3 : Int32) : ¬ own_f0_1 x0 x1 x2 x3 < (1 : Int32) := by
  have h := own_sz x0 x1 x2 x3
  have k1 : (1 : Int32).toInt = 1 := rfl
  rw [own_lt32, k1]; omega
def own_F0 (Z : State) (x0 : Int32) (x1 : Int64) (x2 : Int32) (x3 : Int32)  (n0 : Nat) (h0 : Heap) (v : Option Value) (h : Heap) (L : List Loc) : Prop := v = some (.int (own_f0 x0 x1 x2 x3)) ∧ Fr n0 L
set_option maxRecDepth 65536 in
set_option maxHeartbeats 40000000 in
theorem own_m0 (l : Launch) (Z : State) (a0 : Array Value) (hw : ∀ d ∈ tables_1, d.before a0 Z = true) (ws : List Jvm.Cond) (x0 : Int32) (x1 : Int64) (x2 : Int32) (x3 : Int32)  (n0 : Nat) (h0 : Heap) (Z0 : n0 ≤ h0.size)   :
    MetFree l x (head1 (Jvm.Cond.code x code maxLocals ret :: ws) room_1) (fun a U => a = #[(.int x0), (.long x1), (.int x2), (.int x3)] ∧ Z.Warmed39 U.vm ∧ U.heap = h0) (fun _ _ _ _ _ => True) (fun _ U o U' => ∃ v L, o = .returned v ∧ own_F0 Z x0 x1 x2 x3 n0 h0 v U'.heap L ∧ FrameEnd U o U' L room_1.cells room_1.slots) := by
  refine MetFree.of_bodySF (plainFor_of_name pn_0) hisR ?_
  intro p e s m args below meth c s₁ Bd hml0 hP hK
  obtain ⟨rfl, hZ, hh⟩ := hP
  have hx := Bd.exec
  have hby := Bd.bytes
  have hml : c.maxLocals = 12 := hml0
  have hown : s.vm.findClass "com/example/nodus/nodus/FullMeshContainsPinLaw" = some m.cls := findClass_of_methodNamed Bd.named
  have hnm := (name_of_methodNamed Bd.named Bd.method).1
  have X0 : Stand p l e room_1 s m #[(.int x0), (.long x1), (.int x2), (.int x3)] below meth c s₁ [] 0 0 := Stand.of_body Bd
  have e0 : s₁.heap = h0 := by rw [← hh, Bd.state]; rfl
  have N0 := Fr.nil n0
  have K0 : Keep h0 h0 [] := Keep.refl h0 []
  have hgo : own_Goes p e below s (own_F0 Z x0 x1 x2 x3 n0 h0) room_1.cells room_1.slots (s₁.setTop (mkF m 0 #[.val (.int x0), .val (.long x1), .second, .val (.int x2), .val (.int x3), .unset, .unset, .unset, .unset, .unset, .unset, .unset] [])) := by
    refine own_Goes.step (fun t k => XT.iconstV X0.here hx rfl (1 : Int32) (hb hby at_0) (by decide) k) ?_
    show own_Goes p e below s (own_F0 Z x0 x1 x2 x3 n0 h0) room_1.cells room_1.slots (s₁.setTop (mkF m 1 #[.val (.int x0), .val (.long x1), .second, .val (.int x2), .val (.int x3), .unset, .unset, .unset, .unset, .unset, .unset, .unset] [(.int (1 : Int32))]))
    refine own_Goes.step (fun t k => XS.iloadN X0.here hx rfl (hb hby at_1) rfl k) ?_
    show own_Goes p e below s (own_F0 Z x0 x1 x2 x3 n0 h0) room_1.cells room_1.slots (s₁.setTop (mkF m 2 #[.val (.int x0), .val (.long x1), .second, .val (.int x2), .val (.int x3), .unset, .unset, .unset, .unset, .unset, .unset, .unset] [(.int x0), (.int (1 : Int32))]))
    refine own_Goes.step (fun t k => X0.ldcI hx hown (mvT hZ (hw _ (List.mem_of_getElem? (i := 0) rfl))) rfl (hb hby at_2) k) ?_
    show own_Goes p e below s (own_F0 Z x0 x1 x2 x3 n0 h0) room_1.cells room_1.slots (s₁.setTop (mkF m 4 #[.val (.int x0), .val (.long x1), .second, .val (.int x2), .val (.int x3), .unset, .unset, .unset, .unset, .unset, .unset, .unset] [(.int (2147483647 : Int32)), (.int x0), (.int (1 : Int32))]))
    refine own_Goes.step (fun t k => XS.iand X0.here hx rfl (hb hby at_4) rfl k) ?_
    show own_Goes p e below s (own_F0 Z x0 x1 x2 x3 n0 h0) room_1.cells room_1.slots (s₁.setTop (mkF m 5 #[.val (.int x0), .val (.long x1), .second, .val (.int x2), .val (.int x3), .unset, .unset, .unset, .unset, .unset, .unset, .unset] [(.int (x0 &&& (2147483647 : Int32))), (.int (1 : Int32))]))
    obtain ⟨w1, T1, L1, q1, Y1, st1⟩ := own_stat X0 hx hZ e0 hown (hw _ (List.mem_of_getElem? (i := 1) rfl)) (hw _ (List.mem_of_getElem? (i := 2) rfl)) (hw _ (List.mem_of_getElem? (i := 3) rfl)) (hw _ (List.mem_of_getElem? (i := 4) rfl)) (by decide) (own_m1 l Z a0 hw [] (1 : Int32) (x0 &&& (2147483647 : Int32)) h0 ) (by decide) (W := 0) (by decide) (by decide) (by decide) (g := (mkF m 5 #[.val (.int x0), .val (.long x1), .second, .val (.int x2), .val (.int x3), .unset, .unset, .unset, .unset, .unset, .unset, .unset] [(.int (x0 &&& (2147483647 : Int32))), (.int (1 : Int32))])) rfl (by rw [hml]; rfl) (argsL := [(.int (1 : Int32)), (.int (x0 &&& (2147483647 : Int32)))]) (rest := []) (lenOf pd_1 rfl) rfl (by show 2 * 0 + _ ≤ _; exact Nat.le_of_eq rfl) (hb hby at_5)
    obtain ⟨e1, X1⟩ := own_clean q1 Y1 rfl rfl
    obtain ⟨rfl, -, -⟩ := q1
    refine own_Goes.step st1 ?_
    show own_Goes p e below s (own_F0 Z x0 x1 x2 x3 n0 h0) room_1.cells room_1.slots (T1.setTop (mkF m 8 #[.val (.int x0), .val (.long x1), .second, .val (.int x2), .val (.int x3), .unset, .unset, .unset, .unset, .unset, .unset, .unset] [(.int (own_f1 (1 : Int32) (x0 &&& (2147483647 : Int32))))]))
    refine own_Goes.step (fun t k => XS.istore X1.here hx rfl (hb hby at_8) rfl (l' := #[.val (.int x0), .val (.long x1), .second, .val (.int x2), .val (.int x3), .val (.int (own_f1 (1 : Int32) (x0 &&& (2147483647 : Int32)))), .unset, .unset, .unset, .unset, .unset, .unset]) rfl k) ?_
    show own_Goes p e below s (own_F0 Z x0 x1 x2 x3 n0 h0) room_1.cells room_1.slots (T1.setTop (mkF m 10 #[.val (.int x0), .val (.long x1), .second, .val (.int x2), .val (.int x3), .val (.int (own_f1 (1 : Int32) (x0 &&& (2147483647 : Int32)))), .unset, .unset, .unset, .unset, .unset, .unset] []))
    refine own_Goes.step (fun t k => XS.iloadN X1.here hx rfl (hb hby at_10) rfl k) ?_
    show own_Goes p e below s (own_F0 Z x0 x1 x2 x3 n0 h0) room_1.cells room_1.slots (T1.setTop (mkF m 11 #[.val (.int x0), .val (.long x1), .second, .val (.int x2), .val (.int x3), .val (.int (own_f1 (1 : Int32) (x0 &&& (2147483647 : Int32)))), .unset, .unset, .unset, .unset, .unset, .unset] [(.int x2)]))
    refine own_Goes.step (fun t k => XT.iconstV X1.here hx rfl (2 : Int32) (hb hby at_11) (by decide) k) ?_
    show own_Goes p e below s (own_F0 Z x0 x1 x2 x3 n0 h0) room_1.cells room_1.slots (T1.setTop (mkF m 12 #[.val (.int x0), .val (.long x1), .second, .val (.int x2), .val (.int x3), .val (.int (own_f1 (1 : Int32) (x0 &&& (2147483647 : Int32)))), .unset, .unset, .unset, .unset, .unset, .unset] [(.int (2 : Int32)), (.int x2)]))
    refine own_Goes.step (fun t k => XT.ishr X1.here hx rfl (hb hby at_12) rfl k) ?_
    show own_Goes p e below s (own_F0 Z x0 x1 x2 x3 n0 h0) room_1.cells room_1.slots (T1.setTop (mkF m 13 #[.val (.int x0), .val (.long x1), .second, .val (.int x2), .val (.int x3), .val (.int (own_f1 (1 : Int32) (x0 &&& (2147483647 : Int32)))), .unset, .unset, .unset, .unset, .unset, .unset] [(.int (x2 >>> ((2 : Int32) &&& 31)))]))
    refine own_Goes.step (fun t k => XT.iconstV X1.here hx rfl (1 : Int32) (hb hby at_13) (by decide) k) ?_
    show own_Goes p e below s (own_F0 Z x0 x1 x2 x3 n0 h0) room_1.cells room_1.slots (T1.setTop (mkF m 14 #[.val (.int x0), .val (.long x1), .second, .val (.int x2), .val (.int x3), .val (.int (own_f1 (1 : Int32) (x0 &&& (2147483647 : Int32)))), .unset, .unset, .unset, .unset, .unset, .unset] [(.int (1 : Int32)), (.int (x2 >>> ((2 : Int32) &&& 31)))]))
    refine own_Goes.step (fun t k => XS.iand X1.here hx rfl (hb hby at_14) rfl k) ?_
    show own_Goes p e below s (own_F0 Z x0 x1 x2 x3 n0 h0) room_1.cells room_1.slots (T1.setTop (mkF m 15 #[.val (.int x0), .val (.long x1), .second, .val (.int x2), .val (.int x3), .val (.int (own_f1 (1 : Int32) (x0 &&& (2147483647 : Int32)))), .unset, .unset, .unset, .unset, .unset, .unset] [(.int ((x2 >>> ((2 : Int32) &&& 31)) &&& (1 : Int32)))]))
    have J17 : own_Goes p e below s (own_F0 Z x0 x1 x2 x3 n0 h0) room_1.cells room_1.slots (T1.setTop (mkF m 25 #[.val (.int x0), .val (.long x1), .second, .val (.int x2), .val (.int x3), .val (.int (own_f0_1 x0 x1 x2 x3)), .unset, .unset, .unset, .unset, .unset, .unset] [])) := by
      obtain ⟨T3, h3, X3, e3, E3, A3, D3, -, st3⟩ := newO X1 hx hZ hown (hw _ (List.mem_of_getElem? (i := 5) rfl)) (hw _ (List.mem_of_getElem? (i := 6) rfl)) (hw _ (List.mem_of_getElem? (i := 7) rfl)) e1 (g := (mkF m 25 #[.val (.int x0), .val (.long x1), .second, .val (.int x2), .val (.int x3), .val (.int (own_f0_1 x0 x1 x2 x3)), .unset, .unset, .unset, .unset, .unset, .unset] [])) rfl (hb hby at_25) (by decide) (by decide)
      obtain ⟨a3, g3⟩ : ∃ z, z = h0.size := ⟨_, rfl⟩
      rw [← g3] at A3 D3 st3
      have f4 : Fld Z h3 a3 "com/example/nodus/nodus/FullMesh" "size" "I" (.int (0 : Int32)) := D3 (Or.inr (hw _ (List.mem_of_getElem? (i := 15) rfl))) (ty := .int) (by decide)
      have ga3 : n0 ≤ a3 := Nat.le_trans Z0 (Nat.le_of_eq g3.symm)
      have Z3 : n0 ≤ h3.size := Nat.le_trans Z0 E3.1
      have K3 := K0.ext E3
      have Kh3 : h0.size ≤ a3 := Nat.le_trans K0.1 (Nat.le_of_eq g3.symm)
      refine own_Goes.step st3 ?_
      show own_Goes p e below s (own_F0 Z x0 x1 x2 x3 n0 h0) room_1.cells room_1.slots (T3.setTop (mkF m 28 #[.val (.int x0), .val (.long x1), .second, .val (.int x2), .val (.int x3), .val (.int (own_f0_1 x0 x1 x2 x3)), .unset, .unset, .unset, .unset, .unset, .unset] [(.ref a3)]))
      refine own_Goes.step (fun t k => XS.dup X3.here hx rfl (hb hby at_28) rfl rfl k) ?_
      show own_Goes p e below s (own_F0 Z x0 x1 x2 x3 n0 h0) room_1.cells room_1.slots (T3.setTop (mkF m 29 #[.val (.int x0), .val (.long x1), .second, .val (.int x2), .val (.int x3), .val (.int (own_f0_1 x0 x1 x2 x3)), .unset, .unset, .unset, .unset, .unset, .unset] [(.ref a3), (.ref a3)]))
      refine own_Goes.step (fun t k => XS.iload X3.here hx rfl (hb hby at_29) rfl k) ?_
      show own_Goes p e below s (own_F0 Z x0 x1 x2 x3 n0 h0) room_1.cells room_1.slots (T3.setTop (mkF m 31 #[.val (.int x0), .val (.long x1), .second, .val (.int x2), .val (.int x3), .val (.int (own_f0_1 x0 x1 x2 x3)), .unset, .unset, .unset, .unset, .unset, .unset] [(.int (own_f0_1 x0 x1 x2 x3)), (.ref a3), (.ref a3)]))
      obtain ⟨w6, T6, L6, q6, Y6, st6⟩ := own_spec X3 hx hZ e3 rfl hown (hw _ (List.mem_of_getElem? (i := 8) rfl)) (hw _ (List.mem_of_getElem? (i := 9) rfl)) (hw _ (List.mem_of_getElem? (i := 7) rfl)) (hw _ (List.mem_of_getElem? (i := 10) rfl)) (by decide) (own_m2 l Z a0 hw [] a3 (own_f0_1 x0 x1 x2 x3) n0 h3 A3 ga3 f4 (own_n1 x0 x1 x2 x3) ) (by decide) (W := 1) (by decide) (by decide) (by decide) (g := (mkF m 31 #[.val (.int x0), .val (.long x1), .second, .val (.int x2), .val (.int x3), .val (.int (own_f0_1 x0 x1 x2 x3)), .unset, .unset, .unset, .unset, .unset, .unset] [(.int (own_f0_1 x0 x1 x2 x3)), (.ref a3), (.ref a3)])) rfl (by rw [hml]; rfl) (a := a3) (argsL := [(.int (own_f0_1 x0 x1 x2 x3))]) (rest := [(.ref a3)]) (lenOf pd_2 rfl) rfl (by show 2 * 0 + _ ≤ _; exact Nat.le_of_eq rfl) (hb hby at_31)
      obtain ⟨rfl, N6, K6, E6, c6_0⟩ := q6
      have N9 := Fr.app N0 N6
      have Z10 : n0 ≤ T6.heap.size := Nat.le_trans Z3 K6.1
      have K11 := K3.trans K6 (own_kt (Or.inr Kh3))
      refine own_Goes.step st6 ?_
      show own_Goes p e below s (own_F0 Z x0 x1 x2 x3 n0 h0) room_1.cells room_1.slots (T6.setTop (mkF m 34 #[.val (.int x0), .val (.long x1), .second, .val (.int x2), .val (.int x3), .val (.int (own_f0_1 x0 x1 x2 x3)), .unset, .unset, .unset, .unset, .unset, .unset] [(.ref a3)]))
      refine own_Goes.step (fun t k => XS.astore Y6.here hx rfl (hb hby at_34) rfl rfl (l' := #[.val (.int x0), .val (.long x1), .second, .val (.int x2), .val (.int x3), .val (.int (own_f0_1 x0 x1 x2 x3)), .val (.ref a3), .unset, .unset, .unset, .unset, .unset]) rfl k) ?_
      show own_Goes p e below s (own_F0 Z x0 x1 x2 x3 n0 h0) room_1.cells room_1.slots (T6.setTop (mkF m 36 #[.val (.int x0), .val (.long x1), .second, .val (.int x2), .val (.int x3), .val (.int (own_f0_1 x0 x1 x2 x3)), .val (.ref a3), .unset, .unset, .unset, .unset, .unset] []))
      refine own_Goes.step (fun t k => XS.iload Y6.here hx rfl (hb hby at_36) rfl k) ?_
      show own_Goes p e below s (own_F0 Z x0 x1 x2 x3 n0 h0) room_1.cells room_1.slots (T6.setTop (mkF m 38 #[.val (.int x0), .val (.long x1), .second, .val (.int x2), .val (.int x3), .val (.int (own_f0_1 x0 x1 x2 x3)), .val (.ref a3), .unset, .unset, .unset, .unset, .unset] [(.int x3)]))
      refine own_Goes.step (fun t k => XT.bipushV Y6.here hx rfl (7 : Int32) (hb hby at_38) (by decide) k) ?_
      show own_Goes p e below s (own_F0 Z x0 x1 x2 x3 n0 h0) room_1.cells room_1.slots (T6.setTop (mkF m 40 #[.val (.int x0), .val (.long x1), .second, .val (.int x2), .val (.int x3), .val (.int (own_f0_1 x0 x1 x2 x3)), .val (.ref a3), .unset, .unset, .unset, .unset, .unset] [(.int (7 : Int32)), (.int x3)]))
      refine own_Goes.step (fun t k => XS.iand Y6.here hx rfl (hb hby at_40) rfl k) ?_
      show own_Goes p e below s (own_F0 Z x0 x1 x2 x3 n0 h0) room_1.cells room_1.slots (T6.setTop (mkF m 41 #[.val (.int x0), .val (.long x1), .second, .val (.int x2), .val (.int x3), .val (.int (own_f0_1 x0 x1 x2 x3)), .val (.ref a3), .unset, .unset, .unset, .unset, .unset] [(.int (x3 &&& (7 : Int32)))]))
      refine own_Goes.step (fun t k => XT.iconstV Y6.here hx rfl (3 : Int32) (hb hby at_41) (by decide) k) ?_
      show own_Goes p e below s (own_F0 Z x0 x1 x2 x3 n0 h0) room_1.cells room_1.slots (T6.setTop (mkF m 42 #[.val (.int x0), .val (.long x1), .second, .val (.int x2), .val (.int x3), .val (.int (own_f0_1 x0 x1 x2 x3)), .val (.ref a3), .unset, .unset, .unset, .unset, .unset] [(.int (3 : Int32)), (.int (x3 &&& (7 : Int32)))]))
      refine own_Goes.step (fun t k => XS.isub Y6.here hx rfl (hb hby at_42) rfl k) ?_
      show own_Goes p e below s (own_F0 Z x0 x1 x2 x3 n0 h0) room_1.cells room_1.slots (T6.setTop (mkF m 43 #[.val (.int x0), .val (.long x1), .second, .val (.int x2), .val (.int x3), .val (.int (own_f0_1 x0 x1 x2 x3)), .val (.ref a3), .unset, .unset, .unset, .unset, .unset] [(.int ((x3 &&& (7 : Int32)) - (3 : Int32)))]))
      refine own_Goes.step (fun t k => XS.istore Y6.here hx rfl (hb hby at_43) rfl (l' := #[.val (.int x0), .val (.long x1), .second, .val (.int x2), .val (.int x3), .val (.int (own_f0_1 x0 x1 x2 x3)), .val (.ref a3), .val (.int ((x3 &&& (7 : Int32)) - (3 : Int32))), .unset, .unset, .unset, .unset]) rfl k) ?_
      show own_Goes p e below s (own_F0 Z x0 x1 x2 x3 n0 h0) room_1.cells room_1.slots (T6.setTop (mkF m 45 #[.val (.int x0), .val (.long x1), .second, .val (.int x2), .val (.int x3), .val (.int (own_f0_1 x0 x1 x2 x3)), .val (.ref a3), .val (.int ((x3 &&& (7 : Int32)) - (3 : Int32))), .unset, .unset, .unset, .unset] []))
      refine own_Goes.step (fun t k => XS.iloadN Y6.here hx rfl (hb hby at_45) rfl k) ?_
      show own_Goes p e below s (own_F0 Z x0 x1 x2 x3 n0 h0) room_1.cells room_1.slots (T6.setTop (mkF m 46 #[.val (.int x0), .val (.long x1), .second, .val (.int x2), .val (.int x3), .val (.int (own_f0_1 x0 x1 x2 x3)), .val (.ref a3), .val (.int ((x3 &&& (7 : Int32)) - (3 : Int32))), .unset, .unset, .unset, .unset] [(.int x2)]))
      refine own_Goes.step (fun t k => XT.iconstV Y6.here hx rfl (3 : Int32) (hb hby at_46) (by decide) k) ?_
      show own_Goes p e below s (own_F0 Z x0 x1 x2 x3 n0 h0) room_1.cells room_1.slots (T6.setTop (mkF m 47 #[.val (.int x0), .val (.long x1), .second, .val (.int x2), .val (.int x3), .val (.int (own_f0_1 x0 x1 x2 x3)), .val (.ref a3), .val (.int ((x3 &&& (7 : Int32)) - (3 : Int32))), .unset, .unset, .unset, .unset] [(.int (3 : Int32)), (.int x2)]))
      refine own_Goes.step (fun t k => XS.iand Y6.here hx rfl (hb hby at_47) rfl k) ?_
      show own_Goes p e below s (own_F0 Z x0 x1 x2 x3 n0 h0) room_1.cells room_1.slots (T6.setTop (mkF m 48 #[.val (.int x0), .val (.long x1), .second, .val (.int x2), .val (.int x3), .val (.int (own_f0_1 x0 x1 x2 x3)), .val (.ref a3), .val (.int ((x3 &&& (7 : Int32)) - (3 : Int32))), .unset, .unset, .unset, .unset] [(.int (x2 &&& (3 : Int32)))]))
      refine own_Goes.step (fun t k => XS.istore Y6.here hx rfl (hb hby at_48) rfl (l' := #[.val (.int x0), .val (.long x1), .second, .val (.int x2), .val (.int x3), .val (.int (own_f0_1 x0 x1 x2 x3)), .val (.ref a3), .val (.int ((x3 &&& (7 : Int32)) - (3 : Int32))), .val (.int (x2 &&& (3 : Int32))), .unset, .unset, .unset]) rfl k) ?_
      show own_Goes p e below s (own_F0 Z x0 x1 x2 x3 n0 h0) room_1.cells room_1.slots (T6.setTop (mkF m 50 #[.val (.int x0), .val (.long x1), .second, .val (.int x2), .val (.int x3), .val (.int (own_f0_1 x0 x1 x2 x3)), .val (.ref a3), .val (.int ((x3 &&& (7 : Int32)) - (3 : Int32))), .val (.int (x2 &&& (3 : Int32))), .unset, .unset, .unset] []))
      refine own_Goes.step (fun t k => XS.iload Y6.here hx rfl (hb hby at_50) rfl k) ?_
      show own_Goes p e below s (own_F0 Z x0 x1 x2 x3 n0 h0) room_1.cells room_1.slots (T6.setTop (mkF m 52 #[.val (.int x0), .val (.long x1), .second, .val (.int x2), .val (.int x3), .val (.int (own_f0_1 x0 x1 x2 x3)), .val (.ref a3), .val (.int ((x3 &&& (7 : Int32)) - (3 : Int32))), .val (.int (x2 &&& (3 : Int32))), .unset, .unset, .unset] [(.int (x2 &&& (3 : Int32)))]))
      have J22 : own_Goes p e below s (own_F0 Z x0 x1 x2 x3 n0 h0) room_1.cells room_1.slots (T6.setTop (mkF m 127 #[.val (.int x0), .val (.long x1), .second, .val (.int x2), .val (.int x3), .val (.int (own_f0_1 x0 x1 x2 x3)), .val (.ref a3), .val (.int ((x3 &&& (7 : Int32)) - (3 : Int32))), .val (.int (x2 &&& (3 : Int32))), .val (.long (own_f0_4 x0 x1 x2 x3)), .second, .unset] [])) := by
        refine own_Goes.step (fun t k => XT.lload Y6.here hx rfl (hb hby at_127) rfl k) ?_
        show own_Goes p e below s (own_F0 Z x0 x1 x2 x3 n0 h0) room_1.cells room_1.slots (T6.setTop (mkF m 129 #[.val (.int x0), .val (.long x1), .second, .val (.int x2), .val (.int x3), .val (.int (own_f0_1 x0 x1 x2 x3)), .val (.ref a3), .val (.int ((x3 &&& (7 : Int32)) - (3 : Int32))), .val (.int (x2 &&& (3 : Int32))), .val (.long (own_f0_4 x0 x1 x2 x3)), .second, .unset] [(.long (own_f0_4 x0 x1 x2 x3))]))
        refine own_Goes.step (fun t k => XT.lconstV Y6.here hx rfl (0 : Int64) (hb hby at_129) (by decide) k) ?_
        show own_Goes p e below s (own_F0 Z x0 x1 x2 x3 n0 h0) room_1.cells room_1.slots (T6.setTop (mkF m 130 #[.val (.int x0), .val (.long x1), .second, .val (.int x2), .val (.int x3), .val (.int (own_f0_1 x0 x1 x2 x3)), .val (.ref a3), .val (.int ((x3 &&& (7 : Int32)) - (3 : Int32))), .val (.int (x2 &&& (3 : Int32))), .val (.long (own_f0_4 x0 x1 x2 x3)), .second, .unset] [(.long (0 : Int64)), (.long (own_f0_4 x0 x1 x2 x3))]))
        refine own_Goes.step (fun t k => XT.lcmp Y6.here hx rfl (hb hby at_130) rfl k) ?_
        show own_Goes p e below s (own_F0 Z x0 x1 x2 x3 n0 h0) room_1.cells room_1.slots (T6.setTop (mkF m 131 #[.val (.int x0), .val (.long x1), .second, .val (.int x2), .val (.int x3), .val (.int (own_f0_1 x0 x1 x2 x3)), .val (.ref a3), .val (.int ((x3 &&& (7 : Int32)) - (3 : Int32))), .val (.int (x2 &&& (3 : Int32))), .val (.long (own_f0_4 x0 x1 x2 x3)), .second, .unset] [(.int (XT.cmpL (own_f0_4 x0 x1 x2 x3) (0 : Int64)))]))
        have J21 : own_Goes p e below s (own_F0 Z x0 x1 x2 x3 n0 h0) room_1.cells room_1.slots (T6.setTop (mkF m 150 #[.val (.int x0), .val (.long x1), .second, .val (.int x2), .val (.int x3), .val (.int (own_f0_1 x0 x1 x2 x3)), .val (.ref a3), .val (.int ((x3 &&& (7 : Int32)) - (3 : Int32))), .val (.int (x2 &&& (3 : Int32))), .val (.long (own_f0_4 x0 x1 x2 x3)), .second, .unset] [(.int (own_f0_5 x0 x1 x2 x3))])) := by
          refine own_Goes.step (fun t k => XS.istore Y6.here hx rfl (hb hby at_150) rfl (l' := #[.val (.int x0), .val (.long x1), .second, .val (.int x2), .val (.int x3), .val (.int (own_f0_1 x0 x1 x2 x3)), .val (.ref a3), .val (.int ((x3 &&& (7 : Int32)) - (3 : Int32))), .val (.int (x2 &&& (3 : Int32))), .val (.long (own_f0_4 x0 x1 x2 x3)), .second, .val (.int (own_f0_5 x0 x1 x2 x3))]) rfl k) ?_
          show own_Goes p e below s (own_F0 Z x0 x1 x2 x3 n0 h0) room_1.cells room_1.slots (T6.setTop (mkF m 152 #[.val (.int x0), .val (.long x1), .second, .val (.int x2), .val (.int x3), .val (.int (own_f0_1 x0 x1 x2 x3)), .val (.ref a3), .val (.int ((x3 &&& (7 : Int32)) - (3 : Int32))), .val (.int (x2 &&& (3 : Int32))), .val (.long (own_f0_4 x0 x1 x2 x3)), .second, .val (.int (own_f0_5 x0 x1 x2 x3))] []))
          refine own_Goes.step (fun t k => XS.aload Y6.here hx rfl (hb hby at_152) rfl rfl k) ?_
          show own_Goes p e below s (own_F0 Z x0 x1 x2 x3 n0 h0) room_1.cells room_1.slots (T6.setTop (mkF m 154 #[.val (.int x0), .val (.long x1), .second, .val (.int x2), .val (.int x3), .val (.int (own_f0_1 x0 x1 x2 x3)), .val (.ref a3), .val (.int ((x3 &&& (7 : Int32)) - (3 : Int32))), .val (.int (x2 &&& (3 : Int32))), .val (.long (own_f0_4 x0 x1 x2 x3)), .second, .val (.int (own_f0_5 x0 x1 x2 x3))] [(.ref a3)]))
          refine own_Goes.step (fun t k => XT.lload Y6.here hx rfl (hb hby at_154) rfl k) ?_
          show own_Goes p e below s (own_F0 Z x0 x1 x2 x3 n0 h0) room_1.cells room_1.slots (T6.setTop (mkF m 156 #[.val (.int x0), .val (.long x1), .second, .val (.int x2), .val (.int x3), .val (.int (own_f0_1 x0 x1 x2 x3)), .val (.ref a3), .val (.int ((x3 &&& (7 : Int32)) - (3 : Int32))), .val (.int (x2 &&& (3 : Int32))), .val (.long (own_f0_4 x0 x1 x2 x3)), .second, .val (.int (own_f0_5 x0 x1 x2 x3))] [(.long (own_f0_4 x0 x1 x2 x3)), (.ref a3)]))
          obtain ⟨w19, T19, L19, q19, Y19, st19⟩ := own_virt Y6 hx hZ rfl E6 hown (hw _ (List.mem_of_getElem? (i := 16) rfl)) (hw _ (List.mem_of_getElem? (i := 17) rfl)) (hw _ (List.mem_of_getElem? (i := 19) rfl)) (hw _ (List.mem_of_getElem? (i := 18) rfl)) (hw _ (List.mem_of_getElem? (i := 7) rfl)) (hw _ (List.mem_of_getElem? (i := 20) rfl)) (by decide) (own_m4 l Z a0 hw [] a3 (own_f0_4 x0 x1 x2 x3) (own_f2_size (own_f0_1 x0 x1 x2 x3)) T6.heap c6_0 ) (by decide) (W := 0) (by decide) (by decide) (by decide) (g := (mkF m 156 #[.val (.int x0), .val (.long x1), .second, .val (.int x2), .val (.int x3), .val (.int (own_f0_1 x0 x1 x2 x3)), .val (.ref a3), .val (.int ((x3 &&& (7 : Int32)) - (3 : Int32))), .val (.int (x2 &&& (3 : Int32))), .val (.long (own_f0_4 x0 x1 x2 x3)), .second, .val (.int (own_f0_5 x0 x1 x2 x3))] [(.long (own_f0_4 x0 x1 x2 x3)), (.ref a3)])) rfl (by rw [hml]; rfl) (argsL := [(.long (own_f0_4 x0 x1 x2 x3))]) (rest := []) (lenOf pd_4 rfl) rfl (by show 2 * 0 + _ ≤ _; exact Nat.le_of_eq rfl) (hb hby at_156)
          obtain ⟨e19, X19⟩ := own_clean q19 Y19 rfl rfl
          obtain ⟨rfl, -, -⟩ := q19
          refine own_Goes.step st19 ?_
          show own_Goes p e below s (own_F0 Z x0 x1 x2 x3 n0 h0) room_1.cells room_1.slots (T19.setTop (mkF m 159 #[.val (.int x0), .val (.long x1), .second, .val (.int x2), .val (.int x3), .val (.int (own_f0_1 x0 x1 x2 x3)), .val (.ref a3), .val (.int ((x3 &&& (7 : Int32)) - (3 : Int32))), .val (.int (x2 &&& (3 : Int32))), .val (.long (own_f0_4 x0 x1 x2 x3)), .second, .val (.int (own_f0_5 x0 x1 x2 x3))] [(.int (own_f4 (own_f0_4 x0 x1 x2 x3) (own_f2_size (own_f0_1 x0 x1 x2 x3))))]))
          refine own_Goes.step (fun t k => XS.iload X19.here hx rfl (hb hby at_159) rfl k) ?_
          show own_Goes p e below s (own_F0 Z x0 x1 x2 x3 n0 h0) room_1.cells room_1.slots (T19.setTop (mkF m 161 #[.val (.int x0), .val (.long x1), .second, .val (.int x2), .val (.int x3), .val (.int (own_f0_1 x0 x1 x2 x3)), .val (.ref a3), .val (.int ((x3 &&& (7 : Int32)) - (3 : Int32))), .val (.int (x2 &&& (3 : Int32))), .val (.long (own_f0_4 x0 x1 x2 x3)), .second, .val (.int (own_f0_5 x0 x1 x2 x3))] [(.int (own_f0_5 x0 x1 x2 x3)), (.int (own_f4 (own_f0_4 x0 x1 x2 x3) (own_f2_size (own_f0_1 x0 x1 x2 x3))))]))
          by_cases hc20 : (own_f4 (own_f0_4 x0 x1 x2 x3) (own_f2_size (own_f0_1 x0 x1 x2 x3))) = (own_f0_5 x0 x1 x2 x3)
          · refine own_Goes.step (fun t k => XS.icmpNo X19.here hx rfl (hb hby at_161) rfl (XT.ii_ne_f hc20) k) ?_
            show own_Goes p e below s (own_F0 Z x0 x1 x2 x3 n0 h0) room_1.cells room_1.slots (T19.setTop (mkF m 164 #[.val (.int x0), .val (.long x1), .second, .val (.int x2), .val (.int x3), .val (.int (own_f0_1 x0 x1 x2 x3)), .val (.ref a3), .val (.int ((x3 &&& (7 : Int32)) - (3 : Int32))), .val (.int (x2 &&& (3 : Int32))), .val (.long (own_f0_4 x0 x1 x2 x3)), .second, .val (.int (own_f0_5 x0 x1 x2 x3))] []))
            refine own_Goes.step (fun t k => XT.iconstV X19.here hx rfl (1 : Int32) (hb hby at_164) (by decide) k) ?_
            show own_Goes p e below s (own_F0 Z x0 x1 x2 x3 n0 h0) room_1.cells room_1.slots (T19.setTop (mkF m 165 #[.val (.int x0), .val (.long x1), .second, .val (.int x2), .val (.int x3), .val (.int (own_f0_1 x0 x1 x2 x3)), .val (.ref a3), .val (.int ((x3 &&& (7 : Int32)) - (3 : Int32))), .val (.int (x2 &&& (3 : Int32))), .val (.long (own_f0_4 x0 x1 x2 x3)), .second, .val (.int (own_f0_5 x0 x1 x2 x3))] [(.int (1 : Int32))]))
            refine own_Goes.step (fun t k => XS.goto X19.here hx rfl (pc0 := 165) (pc' := 169) rfl (hb hby at_165) (by decide) (by decide) k) ?_
            show own_Goes p e below s (own_F0 Z x0 x1 x2 x3 n0 h0) room_1.cells room_1.slots (T19.setTop (mkF m 169 #[.val (.int x0), .val (.long x1), .second, .val (.int x2), .val (.int x3), .val (.int (own_f0_1 x0 x1 x2 x3)), .val (.ref a3), .val (.int ((x3 &&& (7 : Int32)) - (3 : Int32))), .val (.int (x2 &&& (3 : Int32))), .val (.long (own_f0_4 x0 x1 x2 x3)), .second, .val (.int (own_f0_5 x0 x1 x2 x3))] [(.int (1 : Int32))]))
            exact own_endN X19 hx Bd.notSynchronized (t := .boolean) Bd.returns (by simp) (hb hby at_169) ⟨(congrArg (fun z => some (Value.int z)) (show (1 : Int32) = own_f0 x0 x1 x2 x3 from by simp only [own_f0, if_pos hc20])), N9⟩ (by decide) (by decide)
          · refine own_Goes.step (fun t k => XS.icmpYes X19.here hx rfl (pc0 := 161) (pc' := 168) rfl (hb hby at_161) rfl (XT.ii_ne_t hc20) (by decide) (by decide) k) ?_
            show own_Goes p e below s (own_F0 Z x0 x1 x2 x3 n0 h0) room_1.cells room_1.slots (T19.setTop (mkF m 168 #[.val (.int x0), .val (.long x1), .second, .val (.int x2), .val (.int x3), .val (.int (own_f0_1 x0 x1 x2 x3)), .val (.ref a3), .val (.int ((x3 &&& (7 : Int32)) - (3 : Int32))), .val (.int (x2 &&& (3 : Int32))), .val (.long (own_f0_4 x0 x1 x2 x3)), .second, .val (.int (own_f0_5 x0 x1 x2 x3))] []))
            refine own_Goes.step (fun t k => XT.iconstV X19.here hx rfl (0 : Int32) (hb hby at_168) (by decide) k) ?_
            show own_Goes p e below s (own_F0 Z x0 x1 x2 x3 n0 h0) room_1.cells room_1.slots (T19.setTop (mkF m 169 #[.val (.int x0), .val (.long x1), .second, .val (.int x2), .val (.int x3), .val (.int (own_f0_1 x0 x1 x2 x3)), .val (.ref a3), .val (.int ((x3 &&& (7 : Int32)) - (3 : Int32))), .val (.int (x2 &&& (3 : Int32))), .val (.long (own_f0_4 x0 x1 x2 x3)), .second, .val (.int (own_f0_5 x0 x1 x2 x3))] [(.int (0 : Int32))]))
            exact own_endN X19 hx Bd.notSynchronized (t := .boolean) Bd.returns (by simp) (hb hby at_169) ⟨(congrArg (fun z => some (Value.int z)) (show (0 : Int32) = own_f0 x0 x1 x2 x3 from by simp only [own_f0, if_neg hc20])), N9⟩ (by decide) (by decide)
        by_cases hc17 : (0 : Int64) < (own_f0_4 x0 x1 x2 x3)
        · refine own_Goes.step (fun t k => XS.ifNo Y6.here hx rfl (hb hby at_131) rfl (XT.ll_le_f hc17) k) ?_
          show own_Goes p e below s (own_F0 Z x0 x1 x2 x3 n0 h0) room_1.cells room_1.slots (T6.setTop (mkF m 134 #[.val (.int x0), .val (.long x1), .second, .val (.int x2), .val (.int x3), .val (.int (own_f0_1 x0 x1 x2 x3)), .val (.ref a3), .val (.int ((x3 &&& (7 : Int32)) - (3 : Int32))), .val (.int (x2 &&& (3 : Int32))), .val (.long (own_f0_4 x0 x1 x2 x3)), .second, .unset] []))
          refine own_Goes.step (fun t k => XT.lload Y6.here hx rfl (hb hby at_134) rfl k) ?_
          show own_Goes p e below s (own_F0 Z x0 x1 x2 x3 n0 h0) room_1.cells room_1.slots (T6.setTop (mkF m 136 #[.val (.int x0), .val (.long x1), .second, .val (.int x2), .val (.int x3), .val (.int (own_f0_1 x0 x1 x2 x3)), .val (.ref a3), .val (.int ((x3 &&& (7 : Int32)) - (3 : Int32))), .val (.int (x2 &&& (3 : Int32))), .val (.long (own_f0_4 x0 x1 x2 x3)), .second, .unset] [(.long (own_f0_4 x0 x1 x2 x3))]))
          refine own_Goes.step (fun t k => XT.lconstV Y6.here hx rfl (1 : Int64) (hb hby at_136) (by decide) k) ?_
          show own_Goes p e below s (own_F0 Z x0 x1 x2 x3 n0 h0) room_1.cells room_1.slots (T6.setTop (mkF m 137 #[.val (.int x0), .val (.long x1), .second, .val (.int x2), .val (.int x3), .val (.int (own_f0_1 x0 x1 x2 x3)), .val (.ref a3), .val (.int ((x3 &&& (7 : Int32)) - (3 : Int32))), .val (.int (x2 &&& (3 : Int32))), .val (.long (own_f0_4 x0 x1 x2 x3)), .second, .unset] [(.long (1 : Int64)), (.long (own_f0_4 x0 x1 x2 x3))]))
          refine own_Goes.step (fun t k => XT.lsub Y6.here hx rfl (hb hby at_137) rfl k) ?_
          show own_Goes p e below s (own_F0 Z x0 x1 x2 x3 n0 h0) room_1.cells room_1.slots (T6.setTop (mkF m 138 #[.val (.int x0), .val (.long x1), .second, .val (.int x2), .val (.int x3), .val (.int (own_f0_1 x0 x1 x2 x3)), .val (.ref a3), .val (.int ((x3 &&& (7 : Int32)) - (3 : Int32))), .val (.int (x2 &&& (3 : Int32))), .val (.long (own_f0_4 x0 x1 x2 x3)), .second, .unset] [(.long ((own_f0_4 x0 x1 x2 x3) - (1 : Int64)))]))
          refine own_Goes.step (fun t k => XS.iload Y6.here hx rfl (hb hby at_138) rfl k) ?_
          show own_Goes p e below s (own_F0 Z x0 x1 x2 x3 n0 h0) room_1.cells room_1.slots (T6.setTop (mkF m 140 #[.val (.int x0), .val (.long x1), .second, .val (.int x2), .val (.int x3), .val (.int (own_f0_1 x0 x1 x2 x3)), .val (.ref a3), .val (.int ((x3 &&& (7 : Int32)) - (3 : Int32))), .val (.int (x2 &&& (3 : Int32))), .val (.long (own_f0_4 x0 x1 x2 x3)), .second, .unset] [(.int (own_f0_1 x0 x1 x2 x3)), (.long ((own_f0_4 x0 x1 x2 x3) - (1 : Int64)))]))
          refine own_Goes.step (fun t k => XT.i2l Y6.here hx rfl (hb hby at_140) rfl k) ?_
          show own_Goes p e below s (own_F0 Z x0 x1 x2 x3 n0 h0) room_1.cells room_1.slots (T6.setTop (mkF m 141 #[.val (.int x0), .val (.long x1), .second, .val (.int x2), .val (.int x3), .val (.int (own_f0_1 x0 x1 x2 x3)), .val (.ref a3), .val (.int ((x3 &&& (7 : Int32)) - (3 : Int32))), .val (.int (x2 &&& (3 : Int32))), .val (.long (own_f0_4 x0 x1 x2 x3)), .second, .unset] [(.long ((own_f0_1 x0 x1 x2 x3).toInt64)), (.long ((own_f0_4 x0 x1 x2 x3) - (1 : Int64)))]))
          refine own_Goes.step (fun t k => XT.lcmp Y6.here hx rfl (hb hby at_141) rfl k) ?_
          show own_Goes p e below s (own_F0 Z x0 x1 x2 x3 n0 h0) room_1.cells room_1.slots (T6.setTop (mkF m 142 #[.val (.int x0), .val (.long x1), .second, .val (.int x2), .val (.int x3), .val (.int (own_f0_1 x0 x1 x2 x3)), .val (.ref a3), .val (.int ((x3 &&& (7 : Int32)) - (3 : Int32))), .val (.int (x2 &&& (3 : Int32))), .val (.long (own_f0_4 x0 x1 x2 x3)), .second, .unset] [(.int (XT.cmpL ((own_f0_4 x0 x1 x2 x3) - (1 : Int64)) ((own_f0_1 x0 x1 x2 x3).toInt64)))]))
          by_cases hc18 : ((own_f0_4 x0 x1 x2 x3) - (1 : Int64)) < ((own_f0_1 x0 x1 x2 x3).toInt64)
          · refine own_Goes.step (fun t k => XS.ifNo Y6.here hx rfl (hb hby at_142) rfl (XT.ll_ge_f hc18) k) ?_
            show own_Goes p e below s (own_F0 Z x0 x1 x2 x3 n0 h0) room_1.cells room_1.slots (T6.setTop (mkF m 145 #[.val (.int x0), .val (.long x1), .second, .val (.int x2), .val (.int x3), .val (.int (own_f0_1 x0 x1 x2 x3)), .val (.ref a3), .val (.int ((x3 &&& (7 : Int32)) - (3 : Int32))), .val (.int (x2 &&& (3 : Int32))), .val (.long (own_f0_4 x0 x1 x2 x3)), .second, .unset] []))
            refine own_Goes.step (fun t k => XT.iconstV Y6.here hx rfl (1 : Int32) (hb hby at_145) (by decide) k) ?_
            show own_Goes p e below s (own_F0 Z x0 x1 x2 x3 n0 h0) room_1.cells room_1.slots (T6.setTop (mkF m 146 #[.val (.int x0), .val (.long x1), .second, .val (.int x2), .val (.int x3), .val (.int (own_f0_1 x0 x1 x2 x3)), .val (.ref a3), .val (.int ((x3 &&& (7 : Int32)) - (3 : Int32))), .val (.int (x2 &&& (3 : Int32))), .val (.long (own_f0_4 x0 x1 x2 x3)), .second, .unset] [(.int (1 : Int32))]))
            refine own_Goes.step (fun t k => XS.goto Y6.here hx rfl (pc0 := 146) (pc' := 150) rfl (hb hby at_146) (by decide) (by decide) k) ?_
            show own_Goes p e below s (own_F0 Z x0 x1 x2 x3 n0 h0) room_1.cells room_1.slots (T6.setTop (mkF m 150 #[.val (.int x0), .val (.long x1), .second, .val (.int x2), .val (.int x3), .val (.int (own_f0_1 x0 x1 x2 x3)), .val (.ref a3), .val (.int ((x3 &&& (7 : Int32)) - (3 : Int32))), .val (.int (x2 &&& (3 : Int32))), .val (.long (own_f0_4 x0 x1 x2 x3)), .second, .unset] [(.int (1 : Int32))]))
            rw [show (own_f0_5 x0 x1 x2 x3) = (1 : Int32) from by simp only [own_f0_5, if_pos hc17, if_pos hc18]] at J21
            exact J21
          · refine own_Goes.step (fun t k => XS.ifYes Y6.here hx rfl (pc0 := 142) (pc' := 149) rfl (hb hby at_142) rfl (XT.ll_ge_t hc18) (by decide) (by decide) k) ?_
            show own_Goes p e below s (own_F0 Z x0 x1 x2 x3 n0 h0) room_1.cells room_1.slots (T6.setTop (mkF m 149 #[.val (.int x0), .val (.long x1), .second, .val (.int x2), .val (.int x3), .val (.int (own_f0_1 x0 x1 x2 x3)), .val (.ref a3), .val (.int ((x3 &&& (7 : Int32)) - (3 : Int32))), .val (.int (x2 &&& (3 : Int32))), .val (.long (own_f0_4 x0 x1 x2 x3)), .second, .unset] []))
            refine own_Goes.step (fun t k => XT.iconstV Y6.here hx rfl (0 : Int32) (hb hby at_149) (by decide) k) ?_
            show own_Goes p e below s (own_F0 Z x0 x1 x2 x3 n0 h0) room_1.cells room_1.slots (T6.setTop (mkF m 150 #[.val (.int x0), .val (.long x1), .second, .val (.int x2), .val (.int x3), .val (.int (own_f0_1 x0 x1 x2 x3)), .val (.ref a3), .val (.int ((x3 &&& (7 : Int32)) - (3 : Int32))), .val (.int (x2 &&& (3 : Int32))), .val (.long (own_f0_4 x0 x1 x2 x3)), .second, .unset] [(.int (0 : Int32))]))
            rw [show (own_f0_5 x0 x1 x2 x3) = (0 : Int32) from by simp only [own_f0_5, if_pos hc17, if_neg hc18]] at J21
            exact J21
        · refine own_Goes.step (fun t k => XS.ifYes Y6.here hx rfl (pc0 := 131) (pc' := 149) rfl (hb hby at_131) rfl (XT.ll_le_t hc17) (by decide) (by decide) k) ?_
          show own_Goes p e below s (own_F0 Z x0 x1 x2 x3 n0 h0) room_1.cells room_1.slots (T6.setTop (mkF m 149 #[.val (.int x0), .val (.long x1), .second, .val (.int x2), .val (.int x3), .val (.int (own_f0_1 x0 x1 x2 x3)), .val (.ref a3), .val (.int ((x3 &&& (7 : Int32)) - (3 : Int32))), .val (.int (x2 &&& (3 : Int32))), .val (.long (own_f0_4 x0 x1 x2 x3)), .second, .unset] []))
          refine own_Goes.step (fun t k => XT.iconstV Y6.here hx rfl (0 : Int32) (hb hby at_149) (by decide) k) ?_
          show own_Goes p e below s (own_F0 Z x0 x1 x2 x3 n0 h0) room_1.cells room_1.slots (T6.setTop (mkF m 150 #[.val (.int x0), .val (.long x1), .second, .val (.int x2), .val (.int x3), .val (.int (own_f0_1 x0 x1 x2 x3)), .val (.ref a3), .val (.int ((x3 &&& (7 : Int32)) - (3 : Int32))), .val (.int (x2 &&& (3 : Int32))), .val (.long (own_f0_4 x0 x1 x2 x3)), .second, .unset] [(.int (0 : Int32))]))
          rw [show (own_f0_5 x0 x1 x2 x3) = (0 : Int32) from by simp only [own_f0_5, if_neg hc17]] at J21
          exact J21
      by_cases hc12 : (x2 &&& (3 : Int32)) = (0 : Int32)
      · refine own_Goes.step (fun t k => XS.ifNo Y6.here hx rfl (hb hby at_52) rfl (XT.i0_ne_f hc12) k) ?_
        show own_Goes p e below s (own_F0 Z x0 x1 x2 x3 n0 h0) room_1.cells room_1.slots (T6.setTop (mkF m 55 #[.val (.int x0), .val (.long x1), .second, .val (.int x2), .val (.int x3), .val (.int (own_f0_1 x0 x1 x2 x3)), .val (.ref a3), .val (.int ((x3 &&& (7 : Int32)) - (3 : Int32))), .val (.int (x2 &&& (3 : Int32))), .unset, .unset, .unset] []))
        refine own_Goes.step (fun t k => XT.lloadN Y6.here hx rfl (hb hby at_55) rfl k) ?_
        show own_Goes p e below s (own_F0 Z x0 x1 x2 x3 n0 h0) room_1.cells room_1.slots (T6.setTop (mkF m 56 #[.val (.int x0), .val (.long x1), .second, .val (.int x2), .val (.int x3), .val (.int (own_f0_1 x0 x1 x2 x3)), .val (.ref a3), .val (.int ((x3 &&& (7 : Int32)) - (3 : Int32))), .val (.int (x2 &&& (3 : Int32))), .unset, .unset, .unset] [(.long x1)]))
        refine own_Goes.step (fun t k => XT.lstore Y6.here hx rfl (hb hby at_56) rfl (l' := #[.val (.int x0), .val (.long x1), .second, .val (.int x2), .val (.int x3), .val (.int (own_f0_1 x0 x1 x2 x3)), .val (.ref a3), .val (.int ((x3 &&& (7 : Int32)) - (3 : Int32))), .val (.int (x2 &&& (3 : Int32))), .val (.long x1), .second, .unset]) rfl k) ?_
        show own_Goes p e below s (own_F0 Z x0 x1 x2 x3 n0 h0) room_1.cells room_1.slots (T6.setTop (mkF m 58 #[.val (.int x0), .val (.long x1), .second, .val (.int x2), .val (.int x3), .val (.int (own_f0_1 x0 x1 x2 x3)), .val (.ref a3), .val (.int ((x3 &&& (7 : Int32)) - (3 : Int32))), .val (.int (x2 &&& (3 : Int32))), .val (.long x1), .second, .unset] []))
        refine own_Goes.step (fun t k => XS.goto Y6.here hx rfl (pc0 := 58) (pc' := 127) rfl (hb hby at_58) (by decide) (by decide) k) ?_
        show own_Goes p e below s (own_F0 Z x0 x1 x2 x3 n0 h0) room_1.cells room_1.slots (T6.setTop (mkF m 127 #[.val (.int x0), .val (.long x1), .second, .val (.int x2), .val (.int x3), .val (.int (own_f0_1 x0 x1 x2 x3)), .val (.ref a3), .val (.int ((x3 &&& (7 : Int32)) - (3 : Int32))), .val (.int (x2 &&& (3 : Int32))), .val (.long x1), .second, .unset] []))
        rw [show (own_f0_4 x0 x1 x2 x3) = x1 from by simp only [own_f0_4, if_pos hc12]] at J22
        exact J22
      · refine own_Goes.step (fun t k => XS.ifYes Y6.here hx rfl (pc0 := 52) (pc' := 61) rfl (hb hby at_52) rfl (XT.i0_ne_t hc12) (by decide) (by decide) k) ?_
        show own_Goes p e below s (own_F0 Z x0 x1 x2 x3 n0 h0) room_1.cells room_1.slots (T6.setTop (mkF m 61 #[.val (.int x0), .val (.long x1), .second, .val (.int x2), .val (.int x3), .val (.int (own_f0_1 x0 x1 x2 x3)), .val (.ref a3), .val (.int ((x3 &&& (7 : Int32)) - (3 : Int32))), .val (.int (x2 &&& (3 : Int32))), .unset, .unset, .unset] []))
        refine own_Goes.step (fun t k => XS.iload Y6.here hx rfl (hb hby at_61) rfl k) ?_
        show own_Goes p e below s (own_F0 Z x0 x1 x2 x3 n0 h0) room_1.cells room_1.slots (T6.setTop (mkF m 63 #[.val (.int x0), .val (.long x1), .second, .val (.int x2), .val (.int x3), .val (.int (own_f0_1 x0 x1 x2 x3)), .val (.ref a3), .val (.int ((x3 &&& (7 : Int32)) - (3 : Int32))), .val (.int (x2 &&& (3 : Int32))), .unset, .unset, .unset] [(.int (x2 &&& (3 : Int32)))]))
        refine own_Goes.step (fun t k => XT.iconstV Y6.here hx rfl (1 : Int32) (hb hby at_63) (by decide) k) ?_
        show own_Goes p e below s (own_F0 Z x0 x1 x2 x3 n0 h0) room_1.cells room_1.slots (T6.setTop (mkF m 64 #[.val (.int x0), .val (.long x1), .second, .val (.int x2), .val (.int x3), .val (.int (own_f0_1 x0 x1 x2 x3)), .val (.ref a3), .val (.int ((x3 &&& (7 : Int32)) - (3 : Int32))), .val (.int (x2 &&& (3 : Int32))), .unset, .unset, .unset] [(.int (1 : Int32)), (.int (x2 &&& (3 : Int32)))]))
        by_cases hc13 : (x2 &&& (3 : Int32)) = (1 : Int32)
        · refine own_Goes.step (fun t k => XS.icmpNo Y6.here hx rfl (hb hby at_64) rfl (XT.ii_ne_f hc13) k) ?_
          show own_Goes p e below s (own_F0 Z x0 x1 x2 x3 n0 h0) room_1.cells room_1.slots (T6.setTop (mkF m 67 #[.val (.int x0), .val (.long x1), .second, .val (.int x2), .val (.int x3), .val (.int (own_f0_1 x0 x1 x2 x3)), .val (.ref a3), .val (.int ((x3 &&& (7 : Int32)) - (3 : Int32))), .val (.int (x2 &&& (3 : Int32))), .unset, .unset, .unset] []))
          refine own_Goes.step (fun t k => XS.iload Y6.here hx rfl (hb hby at_67) rfl k) ?_
          show own_Goes p e below s (own_F0 Z x0 x1 x2 x3 n0 h0) room_1.cells room_1.slots (T6.setTop (mkF m 69 #[.val (.int x0), .val (.long x1), .second, .val (.int x2), .val (.int x3), .val (.int (own_f0_1 x0 x1 x2 x3)), .val (.ref a3), .val (.int ((x3 &&& (7 : Int32)) - (3 : Int32))), .val (.int (x2 &&& (3 : Int32))), .unset, .unset, .unset] [(.int (own_f0_1 x0 x1 x2 x3))]))
          refine own_Goes.step (fun t k => XT.i2l Y6.here hx rfl (hb hby at_69) rfl k) ?_
          show own_Goes p e below s (own_F0 Z x0 x1 x2 x3 n0 h0) room_1.cells room_1.slots (T6.setTop (mkF m 70 #[.val (.int x0), .val (.long x1), .second, .val (.int x2), .val (.int x3), .val (.int (own_f0_1 x0 x1 x2 x3)), .val (.ref a3), .val (.int ((x3 &&& (7 : Int32)) - (3 : Int32))), .val (.int (x2 &&& (3 : Int32))), .unset, .unset, .unset] [(.long ((own_f0_1 x0 x1 x2 x3).toInt64))]))
          refine own_Goes.step (fun t k => XS.iload Y6.here hx rfl (hb hby at_70) rfl k) ?_
          show own_Goes p e below s (own_F0 Z x0 x1 x2 x3 n0 h0) room_1.cells room_1.slots (T6.setTop (mkF m 72 #[.val (.int x0), .val (.long x1), .second, .val (.int x2), .val (.int x3), .val (.int (own_f0_1 x0 x1 x2 x3)), .val (.ref a3), .val (.int ((x3 &&& (7 : Int32)) - (3 : Int32))), .val (.int (x2 &&& (3 : Int32))), .unset, .unset, .unset] [(.int ((x3 &&& (7 : Int32)) - (3 : Int32))), (.long ((own_f0_1 x0 x1 x2 x3).toInt64))]))
          refine own_Goes.step (fun t k => XT.i2l Y6.here hx rfl (hb hby at_72) rfl k) ?_
          show own_Goes p e below s (own_F0 Z x0 x1 x2 x3 n0 h0) room_1.cells room_1.slots (T6.setTop (mkF m 73 #[.val (.int x0), .val (.long x1), .second, .val (.int x2), .val (.int x3), .val (.int (own_f0_1 x0 x1 x2 x3)), .val (.ref a3), .val (.int ((x3 &&& (7 : Int32)) - (3 : Int32))), .val (.int (x2 &&& (3 : Int32))), .unset, .unset, .unset] [(.long (((x3 &&& (7 : Int32)) - (3 : Int32)).toInt64)), (.long ((own_f0_1 x0 x1 x2 x3).toInt64))]))
          refine own_Goes.step (fun t k => XT.ladd Y6.here hx rfl (hb hby at_73) rfl k) ?_
          show own_Goes p e below s (own_F0 Z x0 x1 x2 x3 n0 h0) room_1.cells room_1.slots (T6.setTop (mkF m 74 #[.val (.int x0), .val (.long x1), .second, .val (.int x2), .val (.int x3), .val (.int (own_f0_1 x0 x1 x2 x3)), .val (.ref a3), .val (.int ((x3 &&& (7 : Int32)) - (3 : Int32))), .val (.int (x2 &&& (3 : Int32))), .unset, .unset, .unset] [(.long (((own_f0_1 x0 x1 x2 x3).toInt64) + (((x3 &&& (7 : Int32)) - (3 : Int32)).toInt64)))]))
          refine own_Goes.step (fun t k => XT.lstore Y6.here hx rfl (hb hby at_74) rfl (l' := #[.val (.int x0), .val (.long x1), .second, .val (.int x2), .val (.int x3), .val (.int (own_f0_1 x0 x1 x2 x3)), .val (.ref a3), .val (.int ((x3 &&& (7 : Int32)) - (3 : Int32))), .val (.int (x2 &&& (3 : Int32))), .val (.long (own_f0_2 x0 x1 x2 x3)), .second, .unset]) rfl k) ?_
          show own_Goes p e below s (own_F0 Z x0 x1 x2 x3 n0 h0) room_1.cells room_1.slots (T6.setTop (mkF m 76 #[.val (.int x0), .val (.long x1), .second, .val (.int x2), .val (.int x3), .val (.int (own_f0_1 x0 x1 x2 x3)), .val (.ref a3), .val (.int ((x3 &&& (7 : Int32)) - (3 : Int32))), .val (.int (x2 &&& (3 : Int32))), .val (.long (own_f0_2 x0 x1 x2 x3)), .second, .unset] []))
          refine own_Goes.step (fun t k => XS.goto Y6.here hx rfl (pc0 := 76) (pc' := 127) rfl (hb hby at_76) (by decide) (by decide) k) ?_
          show own_Goes p e below s (own_F0 Z x0 x1 x2 x3 n0 h0) room_1.cells room_1.slots (T6.setTop (mkF m 127 #[.val (.int x0), .val (.long x1), .second, .val (.int x2), .val (.int x3), .val (.int (own_f0_1 x0 x1 x2 x3)), .val (.ref a3), .val (.int ((x3 &&& (7 : Int32)) - (3 : Int32))), .val (.int (x2 &&& (3 : Int32))), .val (.long (own_f0_2 x0 x1 x2 x3)), .second, .unset] []))
          rw [show (own_f0_4 x0 x1 x2 x3) = (own_f0_2 x0 x1 x2 x3) from by simp only [own_f0_4, if_neg hc12, if_pos hc13]] at J22
          exact J22
        · refine own_Goes.step (fun t k => XS.icmpYes Y6.here hx rfl (pc0 := 64) (pc' := 79) rfl (hb hby at_64) rfl (XT.ii_ne_t hc13) (by decide) (by decide) k) ?_
          show own_Goes p e below s (own_F0 Z x0 x1 x2 x3 n0 h0) room_1.cells room_1.slots (T6.setTop (mkF m 79 #[.val (.int x0), .val (.long x1), .second, .val (.int x2), .val (.int x3), .val (.int (own_f0_1 x0 x1 x2 x3)), .val (.ref a3), .val (.int ((x3 &&& (7 : Int32)) - (3 : Int32))), .val (.int (x2 &&& (3 : Int32))), .unset, .unset, .unset] []))
          refine own_Goes.step (fun t k => XS.iload Y6.here hx rfl (hb hby at_79) rfl k) ?_
          show own_Goes p e below s (own_F0 Z x0 x1 x2 x3 n0 h0) room_1.cells room_1.slots (T6.setTop (mkF m 81 #[.val (.int x0), .val (.long x1), .second, .val (.int x2), .val (.int x3), .val (.int (own_f0_1 x0 x1 x2 x3)), .val (.ref a3), .val (.int ((x3 &&& (7 : Int32)) - (3 : Int32))), .val (.int (x2 &&& (3 : Int32))), .unset, .unset, .unset] [(.int (x2 &&& (3 : Int32)))]))
          refine own_Goes.step (fun t k => XT.iconstV Y6.here hx rfl (2 : Int32) (hb hby at_81) (by decide) k) ?_
          show own_Goes p e below s (own_F0 Z x0 x1 x2 x3 n0 h0) room_1.cells room_1.slots (T6.setTop (mkF m 82 #[.val (.int x0), .val (.long x1), .second, .val (.int x2), .val (.int x3), .val (.int (own_f0_1 x0 x1 x2 x3)), .val (.ref a3), .val (.int ((x3 &&& (7 : Int32)) - (3 : Int32))), .val (.int (x2 &&& (3 : Int32))), .unset, .unset, .unset] [(.int (2 : Int32)), (.int (x2 &&& (3 : Int32)))]))
          by_cases hc14 : (x2 &&& (3 : Int32)) = (2 : Int32)
          · refine own_Goes.step (fun t k => XS.icmpNo Y6.here hx rfl (hb hby at_82) rfl (XT.ii_ne_f hc14) k) ?_
            show own_Goes p e below s (own_F0 Z x0 x1 x2 x3 n0 h0) room_1.cells room_1.slots (T6.setTop (mkF m 85 #[.val (.int x0), .val (.long x1), .second, .val (.int x2), .val (.int x3), .val (.int (own_f0_1 x0 x1 x2 x3)), .val (.ref a3), .val (.int ((x3 &&& (7 : Int32)) - (3 : Int32))), .val (.int (x2 &&& (3 : Int32))), .unset, .unset, .unset] []))
            refine own_Goes.step (fun t k => XS.iload Y6.here hx rfl (hb hby at_85) rfl k) ?_
            show own_Goes p e below s (own_F0 Z x0 x1 x2 x3 n0 h0) room_1.cells room_1.slots (T6.setTop (mkF m 87 #[.val (.int x0), .val (.long x1), .second, .val (.int x2), .val (.int x3), .val (.int (own_f0_1 x0 x1 x2 x3)), .val (.ref a3), .val (.int ((x3 &&& (7 : Int32)) - (3 : Int32))), .val (.int (x2 &&& (3 : Int32))), .unset, .unset, .unset] [(.int ((x3 &&& (7 : Int32)) - (3 : Int32)))]))
            refine own_Goes.step (fun t k => XT.i2l Y6.here hx rfl (hb hby at_87) rfl k) ?_
            show own_Goes p e below s (own_F0 Z x0 x1 x2 x3 n0 h0) room_1.cells room_1.slots (T6.setTop (mkF m 88 #[.val (.int x0), .val (.long x1), .second, .val (.int x2), .val (.int x3), .val (.int (own_f0_1 x0 x1 x2 x3)), .val (.ref a3), .val (.int ((x3 &&& (7 : Int32)) - (3 : Int32))), .val (.int (x2 &&& (3 : Int32))), .unset, .unset, .unset] [(.long (((x3 &&& (7 : Int32)) - (3 : Int32)).toInt64))]))
            refine own_Goes.step (fun t k => XT.lstore Y6.here hx rfl (hb hby at_88) rfl (l' := #[.val (.int x0), .val (.long x1), .second, .val (.int x2), .val (.int x3), .val (.int (own_f0_1 x0 x1 x2 x3)), .val (.ref a3), .val (.int ((x3 &&& (7 : Int32)) - (3 : Int32))), .val (.int (x2 &&& (3 : Int32))), .val (.long (((x3 &&& (7 : Int32)) - (3 : Int32)).toInt64)), .second, .unset]) rfl k) ?_
            show own_Goes p e below s (own_F0 Z x0 x1 x2 x3 n0 h0) room_1.cells room_1.slots (T6.setTop (mkF m 90 #[.val (.int x0), .val (.long x1), .second, .val (.int x2), .val (.int x3), .val (.int (own_f0_1 x0 x1 x2 x3)), .val (.ref a3), .val (.int ((x3 &&& (7 : Int32)) - (3 : Int32))), .val (.int (x2 &&& (3 : Int32))), .val (.long (((x3 &&& (7 : Int32)) - (3 : Int32)).toInt64)), .second, .unset] []))
            refine own_Goes.step (fun t k => XS.goto Y6.here hx rfl (pc0 := 90) (pc' := 127) rfl (hb hby at_90) (by decide) (by decide) k) ?_
            show own_Goes p e below s (own_F0 Z x0 x1 x2 x3 n0 h0) room_1.cells room_1.slots (T6.setTop (mkF m 127 #[.val (.int x0), .val (.long x1), .second, .val (.int x2), .val (.int x3), .val (.int (own_f0_1 x0 x1 x2 x3)), .val (.ref a3), .val (.int ((x3 &&& (7 : Int32)) - (3 : Int32))), .val (.int (x2 &&& (3 : Int32))), .val (.long (((x3 &&& (7 : Int32)) - (3 : Int32)).toInt64)), .second, .unset] []))
            rw [show (own_f0_4 x0 x1 x2 x3) = ((x3 &&& (7 : Int32)) - (3 : Int32)).toInt64 from by simp only [own_f0_4, if_neg hc12, if_neg hc13, if_pos hc14]] at J22
            exact J22
          · refine own_Goes.step (fun t k => XS.icmpYes Y6.here hx rfl (pc0 := 82) (pc' := 93) rfl (hb hby at_82) rfl (XT.ii_ne_t hc14) (by decide) (by decide) k) ?_
            show own_Goes p e below s (own_F0 Z x0 x1 x2 x3 n0 h0) room_1.cells room_1.slots (T6.setTop (mkF m 93 #[.val (.int x0), .val (.long x1), .second, .val (.int x2), .val (.int x3), .val (.int (own_f0_1 x0 x1 x2 x3)), .val (.ref a3), .val (.int ((x3 &&& (7 : Int32)) - (3 : Int32))), .val (.int (x2 &&& (3 : Int32))), .unset, .unset, .unset] []))
            refine own_Goes.step (fun t k => XS.iload Y6.here hx rfl (hb hby at_93) rfl k) ?_
            show own_Goes p e below s (own_F0 Z x0 x1 x2 x3 n0 h0) room_1.cells room_1.slots (T6.setTop (mkF m 95 #[.val (.int x0), .val (.long x1), .second, .val (.int x2), .val (.int x3), .val (.int (own_f0_1 x0 x1 x2 x3)), .val (.ref a3), .val (.int ((x3 &&& (7 : Int32)) - (3 : Int32))), .val (.int (x2 &&& (3 : Int32))), .unset, .unset, .unset] [(.int x3)]))
            refine own_Goes.step (fun t k => XT.iconstV Y6.here hx rfl (3 : Int32) (hb hby at_95) (by decide) k) ?_
            show own_Goes p e below s (own_F0 Z x0 x1 x2 x3 n0 h0) room_1.cells room_1.slots (T6.setTop (mkF m 96 #[.val (.int x0), .val (.long x1), .second, .val (.int x2), .val (.int x3), .val (.int (own_f0_1 x0 x1 x2 x3)), .val (.ref a3), .val (.int ((x3 &&& (7 : Int32)) - (3 : Int32))), .val (.int (x2 &&& (3 : Int32))), .unset, .unset, .unset] [(.int (3 : Int32)), (.int x3)]))
            refine own_Goes.step (fun t k => XT.ishr Y6.here hx rfl (hb hby at_96) rfl k) ?_
            show own_Goes p e below s (own_F0 Z x0 x1 x2 x3 n0 h0) room_1.cells room_1.slots (T6.setTop (mkF m 97 #[.val (.int x0), .val (.long x1), .second, .val (.int x2), .val (.int x3), .val (.int (own_f0_1 x0 x1 x2 x3)), .val (.ref a3), .val (.int ((x3 &&& (7 : Int32)) - (3 : Int32))), .val (.int (x2 &&& (3 : Int32))), .unset, .unset, .unset] [(.int (x3 >>> ((3 : Int32) &&& 31)))]))
            refine own_Goes.step (fun t k => XT.iconstV Y6.here hx rfl (1 : Int32) (hb hby at_97) (by decide) k) ?_
            show own_Goes p e below s (own_F0 Z x0 x1 x2 x3 n0 h0) room_1.cells room_1.slots (T6.setTop (mkF m 98 #[.val (.int x0), .val (.long x1), .second, .val (.int x2), .val (.int x3), .val (.int (own_f0_1 x0 x1 x2 x3)), .val (.ref a3), .val (.int ((x3 &&& (7 : Int32)) - (3 : Int32))), .val (.int (x2 &&& (3 : Int32))), .unset, .unset, .unset] [(.int (1 : Int32)), (.int (x3 >>> ((3 : Int32) &&& 31)))]))
            refine own_Goes.step (fun t k => XS.iand Y6.here hx rfl (hb hby at_98) rfl k) ?_
            show own_Goes p e below s (own_F0 Z x0 x1 x2 x3 n0 h0) room_1.cells room_1.slots (T6.setTop (mkF m 99 #[.val (.int x0), .val (.long x1), .second, .val (.int x2), .val (.int x3), .val (.int (own_f0_1 x0 x1 x2 x3)), .val (.ref a3), .val (.int ((x3 &&& (7 : Int32)) - (3 : Int32))), .val (.int (x2 &&& (3 : Int32))), .unset, .unset, .unset] [(.int ((x3 >>> ((3 : Int32) &&& 31)) &&& (1 : Int32)))]))
            have J16 : own_Goes p e below s (own_F0 Z x0 x1 x2 x3 n0 h0) room_1.cells room_1.slots (T6.setTop (mkF m 125 #[.val (.int x0), .val (.long x1), .second, .val (.int x2), .val (.int x3), .val (.int (own_f0_1 x0 x1 x2 x3)), .val (.ref a3), .val (.int ((x3 &&& (7 : Int32)) - (3 : Int32))), .val (.int (x2 &&& (3 : Int32))), .unset, .unset, .unset] [(.long (own_f0_3 x0 x1 x2 x3))])) := by
              refine own_Goes.step (fun t k => XT.lstore Y6.here hx rfl (hb hby at_125) rfl (l' := #[.val (.int x0), .val (.long x1), .second, .val (.int x2), .val (.int x3), .val (.int (own_f0_1 x0 x1 x2 x3)), .val (.ref a3), .val (.int ((x3 &&& (7 : Int32)) - (3 : Int32))), .val (.int (x2 &&& (3 : Int32))), .val (.long (own_f0_3 x0 x1 x2 x3)), .second, .unset]) rfl k) ?_
              show own_Goes p e below s (own_F0 Z x0 x1 x2 x3 n0 h0) room_1.cells room_1.slots (T6.setTop (mkF m 127 #[.val (.int x0), .val (.long x1), .second, .val (.int x2), .val (.int x3), .val (.int (own_f0_1 x0 x1 x2 x3)), .val (.ref a3), .val (.int ((x3 &&& (7 : Int32)) - (3 : Int32))), .val (.int (x2 &&& (3 : Int32))), .val (.long (own_f0_3 x0 x1 x2 x3)), .second, .unset] []))
              rw [show (own_f0_4 x0 x1 x2 x3) = (own_f0_3 x0 x1 x2 x3) from by simp only [own_f0_4, if_neg hc12, if_neg hc13, if_neg hc14]] at J22
              exact J22
            by_cases hc15 : ((x3 >>> ((3 : Int32) &&& 31)) &&& (1 : Int32)) = (0 : Int32)
            · refine own_Goes.step (fun t k => XS.ifYes Y6.here hx rfl (pc0 := 99) (pc' := 115) rfl (hb hby at_99) rfl (XT.i0_eq_t hc15) (by decide) (by decide) k) ?_
              show own_Goes p e below s (own_F0 Z x0 x1 x2 x3 n0 h0) room_1.cells room_1.slots (T6.setTop (mkF m 115 #[.val (.int x0), .val (.long x1), .second, .val (.int x2), .val (.int x3), .val (.int (own_f0_1 x0 x1 x2 x3)), .val (.ref a3), .val (.int ((x3 &&& (7 : Int32)) - (3 : Int32))), .val (.int (x2 &&& (3 : Int32))), .unset, .unset, .unset] []))
              refine own_Goes.step (fun t k => Y6.ldc2J hx hown (mvT hZ (hw _ (List.mem_of_getElem? (i := 21) rfl))) rfl (hb hby at_115) k) ?_
              show own_Goes p e below s (own_F0 Z x0 x1 x2 x3 n0 h0) room_1.cells room_1.slots (T6.setTop (mkF m 118 #[.val (.int x0), .val (.long x1), .second, .val (.int x2), .val (.int x3), .val (.int (own_f0_1 x0 x1 x2 x3)), .val (.ref a3), .val (.int ((x3 &&& (7 : Int32)) - (3 : Int32))), .val (.int (x2 &&& (3 : Int32))), .unset, .unset, .unset] [(.long (-9223372036854775808 : Int64))]))
              refine own_Goes.step (fun t k => XS.iload Y6.here hx rfl (hb hby at_118) rfl k) ?_
              show own_Goes p e below s (own_F0 Z x0 x1 x2 x3 n0 h0) room_1.cells room_1.slots (T6.setTop (mkF m 120 #[.val (.int x0), .val (.long x1), .second, .val (.int x2), .val (.int x3), .val (.int (own_f0_1 x0 x1 x2 x3)), .val (.ref a3), .val (.int ((x3 &&& (7 : Int32)) - (3 : Int32))), .val (.int (x2 &&& (3 : Int32))), .unset, .unset, .unset] [(.int x3), (.long (-9223372036854775808 : Int64))]))
              refine own_Goes.step (fun t k => XT.bipushV Y6.here hx rfl (7 : Int32) (hb hby at_120) (by decide) k) ?_
              show own_Goes p e below s (own_F0 Z x0 x1 x2 x3 n0 h0) room_1.cells room_1.slots (T6.setTop (mkF m 122 #[.val (.int x0), .val (.long x1), .second, .val (.int x2), .val (.int x3), .val (.int (own_f0_1 x0 x1 x2 x3)), .val (.ref a3), .val (.int ((x3 &&& (7 : Int32)) - (3 : Int32))), .val (.int (x2 &&& (3 : Int32))), .unset, .unset, .unset] [(.int (7 : Int32)), (.int x3), (.long (-9223372036854775808 : Int64))]))
              refine own_Goes.step (fun t k => XS.iand Y6.here hx rfl (hb hby at_122) rfl k) ?_
              show own_Goes p e below s (own_F0 Z x0 x1 x2 x3 n0 h0) room_1.cells room_1.slots (T6.setTop (mkF m 123 #[.val (.int x0), .val (.long x1), .second, .val (.int x2), .val (.int x3), .val (.int (own_f0_1 x0 x1 x2 x3)), .val (.ref a3), .val (.int ((x3 &&& (7 : Int32)) - (3 : Int32))), .val (.int (x2 &&& (3 : Int32))), .unset, .unset, .unset] [(.int (x3 &&& (7 : Int32))), (.long (-9223372036854775808 : Int64))]))
              refine own_Goes.step (fun t k => XT.i2l Y6.here hx rfl (hb hby at_123) rfl k) ?_
              show own_Goes p e below s (own_F0 Z x0 x1 x2 x3 n0 h0) room_1.cells room_1.slots (T6.setTop (mkF m 124 #[.val (.int x0), .val (.long x1), .second, .val (.int x2), .val (.int x3), .val (.int (own_f0_1 x0 x1 x2 x3)), .val (.ref a3), .val (.int ((x3 &&& (7 : Int32)) - (3 : Int32))), .val (.int (x2 &&& (3 : Int32))), .unset, .unset, .unset] [(.long ((x3 &&& (7 : Int32)).toInt64)), (.long (-9223372036854775808 : Int64))]))
              refine own_Goes.step (fun t k => XT.ladd Y6.here hx rfl (hb hby at_124) rfl k) ?_
              show own_Goes p e below s (own_F0 Z x0 x1 x2 x3 n0 h0) room_1.cells room_1.slots (T6.setTop (mkF m 125 #[.val (.int x0), .val (.long x1), .second, .val (.int x2), .val (.int x3), .val (.int (own_f0_1 x0 x1 x2 x3)), .val (.ref a3), .val (.int ((x3 &&& (7 : Int32)) - (3 : Int32))), .val (.int (x2 &&& (3 : Int32))), .unset, .unset, .unset] [(.long ((-9223372036854775808 : Int64) + ((x3 &&& (7 : Int32)).toInt64)))]))
              rw [show (own_f0_3 x0 x1 x2 x3) = ((-9223372036854775808 : Int64) + ((x3 &&& (7 : Int32)).toInt64)) from by simp only [own_f0_3, if_pos hc15]] at J16
              exact J16
            · refine own_Goes.step (fun t k => XS.ifNo Y6.here hx rfl (hb hby at_99) rfl (XT.i0_eq_f hc15) k) ?_
              show own_Goes p e below s (own_F0 Z x0 x1 x2 x3 n0 h0) room_1.cells room_1.slots (T6.setTop (mkF m 102 #[.val (.int x0), .val (.long x1), .second, .val (.int x2), .val (.int x3), .val (.int (own_f0_1 x0 x1 x2 x3)), .val (.ref a3), .val (.int ((x3 &&& (7 : Int32)) - (3 : Int32))), .val (.int (x2 &&& (3 : Int32))), .unset, .unset, .unset] []))
              refine own_Goes.step (fun t k => Y6.ldc2J hx hown (mvT hZ (hw _ (List.mem_of_getElem? (i := 22) rfl))) rfl (hb hby at_102) k) ?_
              show own_Goes p e below s (own_F0 Z x0 x1 x2 x3 n0 h0) room_1.cells room_1.slots (T6.setTop (mkF m 105 #[.val (.int x0), .val (.long x1), .second, .val (.int x2), .val (.int x3), .val (.int (own_f0_1 x0 x1 x2 x3)), .val (.ref a3), .val (.int ((x3 &&& (7 : Int32)) - (3 : Int32))), .val (.int (x2 &&& (3 : Int32))), .unset, .unset, .unset] [(.long (9223372036854775807 : Int64))]))
              refine own_Goes.step (fun t k => XS.iload Y6.here hx rfl (hb hby at_105) rfl k) ?_
              show own_Goes p e below s (own_F0 Z x0 x1 x2 x3 n0 h0) room_1.cells room_1.slots (T6.setTop (mkF m 107 #[.val (.int x0), .val (.long x1), .second, .val (.int x2), .val (.int x3), .val (.int (own_f0_1 x0 x1 x2 x3)), .val (.ref a3), .val (.int ((x3 &&& (7 : Int32)) - (3 : Int32))), .val (.int (x2 &&& (3 : Int32))), .unset, .unset, .unset] [(.int x3), (.long (9223372036854775807 : Int64))]))
              refine own_Goes.step (fun t k => XT.bipushV Y6.here hx rfl (7 : Int32) (hb hby at_107) (by decide) k) ?_
              show own_Goes p e below s (own_F0 Z x0 x1 x2 x3 n0 h0) room_1.cells room_1.slots (T6.setTop (mkF m 109 #[.val (.int x0), .val (.long x1), .second, .val (.int x2), .val (.int x3), .val (.int (own_f0_1 x0 x1 x2 x3)), .val (.ref a3), .val (.int ((x3 &&& (7 : Int32)) - (3 : Int32))), .val (.int (x2 &&& (3 : Int32))), .unset, .unset, .unset] [(.int (7 : Int32)), (.int x3), (.long (9223372036854775807 : Int64))]))
              refine own_Goes.step (fun t k => XS.iand Y6.here hx rfl (hb hby at_109) rfl k) ?_
              show own_Goes p e below s (own_F0 Z x0 x1 x2 x3 n0 h0) room_1.cells room_1.slots (T6.setTop (mkF m 110 #[.val (.int x0), .val (.long x1), .second, .val (.int x2), .val (.int x3), .val (.int (own_f0_1 x0 x1 x2 x3)), .val (.ref a3), .val (.int ((x3 &&& (7 : Int32)) - (3 : Int32))), .val (.int (x2 &&& (3 : Int32))), .unset, .unset, .unset] [(.int (x3 &&& (7 : Int32))), (.long (9223372036854775807 : Int64))]))
              refine own_Goes.step (fun t k => XT.i2l Y6.here hx rfl (hb hby at_110) rfl k) ?_
              show own_Goes p e below s (own_F0 Z x0 x1 x2 x3 n0 h0) room_1.cells room_1.slots (T6.setTop (mkF m 111 #[.val (.int x0), .val (.long x1), .second, .val (.int x2), .val (.int x3), .val (.int (own_f0_1 x0 x1 x2 x3)), .val (.ref a3), .val (.int ((x3 &&& (7 : Int32)) - (3 : Int32))), .val (.int (x2 &&& (3 : Int32))), .unset, .unset, .unset] [(.long ((x3 &&& (7 : Int32)).toInt64)), (.long (9223372036854775807 : Int64))]))
              refine own_Goes.step (fun t k => XT.lsub Y6.here hx rfl (hb hby at_111) rfl k) ?_
              show own_Goes p e below s (own_F0 Z x0 x1 x2 x3 n0 h0) room_1.cells room_1.slots (T6.setTop (mkF m 112 #[.val (.int x0), .val (.long x1), .second, .val (.int x2), .val (.int x3), .val (.int (own_f0_1 x0 x1 x2 x3)), .val (.ref a3), .val (.int ((x3 &&& (7 : Int32)) - (3 : Int32))), .val (.int (x2 &&& (3 : Int32))), .unset, .unset, .unset] [(.long ((9223372036854775807 : Int64) - ((x3 &&& (7 : Int32)).toInt64)))]))
              refine own_Goes.step (fun t k => XS.goto Y6.here hx rfl (pc0 := 112) (pc' := 125) rfl (hb hby at_112) (by decide) (by decide) k) ?_
              show own_Goes p e below s (own_F0 Z x0 x1 x2 x3 n0 h0) room_1.cells room_1.slots (T6.setTop (mkF m 125 #[.val (.int x0), .val (.long x1), .second, .val (.int x2), .val (.int x3), .val (.int (own_f0_1 x0 x1 x2 x3)), .val (.ref a3), .val (.int ((x3 &&& (7 : Int32)) - (3 : Int32))), .val (.int (x2 &&& (3 : Int32))), .unset, .unset, .unset] [(.long ((9223372036854775807 : Int64) - ((x3 &&& (7 : Int32)).toInt64)))]))
              rw [show (own_f0_3 x0 x1 x2 x3) = ((9223372036854775807 : Int64) - ((x3 &&& (7 : Int32)).toInt64)) from by simp only [own_f0_3, if_neg hc15]] at J16
              exact J16
    by_cases hc2 : ((x2 >>> ((2 : Int32) &&& 31)) &&& (1 : Int32)) = (0 : Int32)
    · refine own_Goes.step (fun t k => XS.ifYes X1.here hx rfl (pc0 := 15) (pc' := 25) rfl (hb hby at_15) rfl (XT.i0_eq_t hc2) (by decide) (by decide) k) ?_
      show own_Goes p e below s (own_F0 Z x0 x1 x2 x3 n0 h0) room_1.cells room_1.slots (T1.setTop (mkF m 25 #[.val (.int x0), .val (.long x1), .second, .val (.int x2), .val (.int x3), .val (.int (own_f1 (1 : Int32) (x0 &&& (2147483647 : Int32)))), .unset, .unset, .unset, .unset, .unset, .unset] []))
      rw [show (own_f0_1 x0 x1 x2 x3) = (own_f1 (1 : Int32) (x0 &&& (2147483647 : Int32))) from by simp only [own_f0_1, if_pos hc2]] at J17
      exact J17
    · refine own_Goes.step (fun t k => XS.ifNo X1.here hx rfl (hb hby at_15) rfl (XT.i0_eq_f hc2) k) ?_
      show own_Goes p e below s (own_F0 Z x0 x1 x2 x3 n0 h0) room_1.cells room_1.slots (T1.setTop (mkF m 18 #[.val (.int x0), .val (.long x1), .second, .val (.int x2), .val (.int x3), .val (.int (own_f1 (1 : Int32) (x0 &&& (2147483647 : Int32)))), .unset, .unset, .unset, .unset, .unset, .unset] []))
      refine own_Goes.step (fun t k => XT.iconstV X1.here hx rfl (1 : Int32) (hb hby at_18) (by decide) k) ?_
      show own_Goes p e below s (own_F0 Z x0 x1 x2 x3 n0 h0) room_1.cells room_1.slots (T1.setTop (mkF m 19 #[.val (.int x0), .val (.long x1), .second, .val (.int x2), .val (.int x3), .val (.int (own_f1 (1 : Int32) (x0 &&& (2147483647 : Int32)))), .unset, .unset, .unset, .unset, .unset, .unset] [(.int (1 : Int32))]))
      refine own_Goes.step (fun t k => XS.iloadN X1.here hx rfl (hb hby at_19) rfl k) ?_
      show own_Goes p e below s (own_F0 Z x0 x1 x2 x3 n0 h0) room_1.cells room_1.slots (T1.setTop (mkF m 20 #[.val (.int x0), .val (.long x1), .second, .val (.int x2), .val (.int x3), .val (.int (own_f1 (1 : Int32) (x0 &&& (2147483647 : Int32)))), .unset, .unset, .unset, .unset, .unset, .unset] [(.int x0), (.int (1 : Int32))]))
      refine own_Goes.step (fun t k => XT.iconstV X1.here hx rfl (3 : Int32) (hb hby at_20) (by decide) k) ?_
      show own_Goes p e below s (own_F0 Z x0 x1 x2 x3 n0 h0) room_1.cells room_1.slots (T1.setTop (mkF m 21 #[.val (.int x0), .val (.long x1), .second, .val (.int x2), .val (.int x3), .val (.int (own_f1 (1 : Int32) (x0 &&& (2147483647 : Int32)))), .unset, .unset, .unset, .unset, .unset, .unset] [(.int (3 : Int32)), (.int x0), (.int (1 : Int32))]))
      refine own_Goes.step (fun t k => XS.iand X1.here hx rfl (hb hby at_21) rfl k) ?_
      show own_Goes p e below s (own_F0 Z x0 x1 x2 x3 n0 h0) room_1.cells room_1.slots (T1.setTop (mkF m 22 #[.val (.int x0), .val (.long x1), .second, .val (.int x2), .val (.int x3), .val (.int (own_f1 (1 : Int32) (x0 &&& (2147483647 : Int32)))), .unset, .unset, .unset, .unset, .unset, .unset] [(.int (x0 &&& (3 : Int32))), (.int (1 : Int32))]))
      refine own_Goes.step (fun t k => XS.iadd X1.here hx rfl (hb hby at_22) rfl k) ?_
      show own_Goes p e below s (own_F0 Z x0 x1 x2 x3 n0 h0) room_1.cells room_1.slots (T1.setTop (mkF m 23 #[.val (.int x0), .val (.long x1), .second, .val (.int x2), .val (.int x3), .val (.int (own_f1 (1 : Int32) (x0 &&& (2147483647 : Int32)))), .unset, .unset, .unset, .unset, .unset, .unset] [(.int ((1 : Int32) + (x0 &&& (3 : Int32))))]))
      refine own_Goes.step (fun t k => XS.istore X1.here hx rfl (hb hby at_23) rfl (l' := #[.val (.int x0), .val (.long x1), .second, .val (.int x2), .val (.int x3), .val (.int ((1 : Int32) + (x0 &&& (3 : Int32)))), .unset, .unset, .unset, .unset, .unset, .unset]) rfl k) ?_
      show own_Goes p e below s (own_F0 Z x0 x1 x2 x3 n0 h0) room_1.cells room_1.slots (T1.setTop (mkF m 25 #[.val (.int x0), .val (.long x1), .second, .val (.int x2), .val (.int x3), .val (.int ((1 : Int32) + (x0 &&& (3 : Int32)))), .unset, .unset, .unset, .unset, .unset, .unset] []))
      rw [show (own_f0_1 x0 x1 x2 x3) = ((1 : Int32) + (x0 &&& (3 : Int32))) from by simp only [own_f0_1, if_neg hc2]] at J17
      exact J17
  obtain ⟨t2, o2, q1, q2, q3, q4⟩ := hgo
  exact ⟨t2, o2, castTop (ef_0 m x0 x1 x2 x3) q1, q2, q3, q4⟩
theorem own_law (x0 : Int32) (x1 : Int64) (x2 x3 : Int32) : own_f0 x0 x1 x2 x3 = 1 := by
  have key : own_f4 (own_f0_4 x0 x1 x2 x3) (own_f2_size (own_f0_1 x0 x1 x2 x3)) = own_f0_5 x0 x1 x2 x3 := by
    unfold own_f4 own_f0_5 own_f2_size
    generalize own_f0_4 x0 x1 x2 x3 = p
    generalize own_f0_1 x0 x1 x2 x3 = z
    have k1 : (1 : Int64).toInt = 1 := rfl
    have k0 : (0 : Int64).toInt = 0 := rfl
    have hz := Jvm.Kit.i64_of_i32 z
    have hp := p.toInt_lt
    by_cases h : p < (1 : Int64)
    · have h2 : ¬ (0 : Int64) < p := by rw [own_lt64] at h ⊢; omega
      rw [if_pos h, if_neg h2]
    · have h2 : (0 : Int64) < p := by rw [own_lt64] at h ⊢; omega
      have s : (p - (1 : Int64)).toInt = p.toInt - 1 := by
        rw [own_lt64] at h2
        rw [Jvm.Kit.i64_sub (by omega) (by omega), k1]
      rw [if_neg h, if_pos h2]
      by_cases h3 : z.toInt64 < p
      · have h4 : ¬ (p - (1 : Int64)) < z.toInt64 := by rw [own_lt64] at h3 ⊢; omega
        rw [if_pos h3, if_neg h4]
      · have h4 : (p - (1 : Int64)) < z.toInt64 := by rw [own_lt64] at h3 ⊢; omega
        rw [if_neg h3, if_pos h4]
  rw [own_f0, if_pos key]
set_option maxRecDepth 65536 in
set_option maxHeartbeats 40000000 in
theorem comes_1 {Post : Tables → Env → Array Value → State → Outcome → State → Prop} (hpost : ∀ tb e args s v u, (limb_1_1.after args s (.returned v) u = true ∧ limb_1_2.after args s (.returned v) u = true ∧ True) → FrameEnd s (.returned v) u (Jvm.fieldLocs frame_1_writes args s ++ Jvm.arrayLocs frame_1_arrays args s ++ Jvm.staticLocs frame_1_statics s) 16 128 → Post tb e args s (.returned v) u) :
    ArmFor flags0 classFile x code maxLocals ret World_1 tables_1 room_1 Calls_1 rest_1 Pre_1 Post := by
  intro l hfl _ _ p e ha hc hk s m args below hf hA hF happ hP
  obtain ⟨hcalls, hrest, hpre⟩ := hP
  obtain ⟨-, -, -, hnamed, -, -, -, hat⟩ := (Spec.applies_iff hf).mp happ
  obtain ⟨hg, hn⟩ := and_e (Cond.before_iff.mp (show (Jvm.Cond.and given_1 narrow_1).before args s = true from hpre))
  obtain ⟨hcount, hr0⟩ := and_e hg
  obtain ⟨w0, w1, w2, w3, rfl⟩ : ∃ w0 w1 w2 w3 : Value, args = #[w0, w1, w2, w3] := by
    have hs : args.size = 4 := by simpa [Cond.value, given_1] using hcount
    obtain ⟨L⟩ := args
    match L, hs with
    | [w0, w1, w2, w3], _ => exact ⟨w0, w1, w2, w3, rfl⟩
  have hw := fun d (hd : d ∈ tables_1) => atoms_spec (ws := Jvm.Cond.code x code maxLocals ret :: tables_1) hat d (List.mem_cons_of_mem _ hd)
  obtain ⟨ha0, hr1⟩ := and_e hr0
  obtain ⟨i0, ev0⟩ := is_v ha0
  obtain rfl : w0 = (.int i0) := Option.some.inj ev0
  obtain ⟨ha1, hr2⟩ := and_e hr1
  obtain ⟨i1, ev1⟩ := isL_v ha1
  obtain rfl : w1 = (.long i1) := Option.some.inj ev1
  obtain ⟨ha2, hr3⟩ := and_e hr2
  obtain ⟨i2, ev2⟩ := is_v ha2
  obtain rfl : w2 = (.int i2) := Option.some.inj ev2
  obtain ⟨i3, ev3⟩ := is_v hr3
  obtain rfl : w3 = (.int i3) := Option.some.inj ev3
  obtain ⟨n, o, h1, h2, h3, _, L, rfl, ⟨rfl, N⟩, hq⟩ := own_m0 l s _ hw tables_1 i0 i1 i2 i3 s.heap.size s.heap (Nat.le_refl _) p e ha hc hk s m _ below hf ((Spec.applies_iff_loose hf).mp happ).1 ⟨rfl, State.Warmed39.refl s, rfl⟩ trivial
  rw [own_law i0 i1 i2 i3] at h3 hq
  refine ⟨n, _, h1, h2, h3, hpost _ _ _ _ _ _ ⟨Cond.after_iff.mpr rfl, Cond.after_iff.mpr (eq_i res_at (Term.int_eval (1)) rfl), trivial⟩ ⟨hq.1, hq.2.1, (hq.2.2.sift fun y hy => Or.inr (N y hy)).mono (by decide) (by decide)⟩⟩
theorem main_1_1 : Claimed_1_1 := comes_1 fun _ _ _ _ _ _ h hF => ⟨h.1, hF⟩
theorem main_1_2 : Claimed_1_2 := comes_1 fun _ _ _ _ _ _ h hF => ⟨h.2.1, hF⟩
end Jvm.Pilot.@@N@@
namespace Jvm.Pilot.@@N@@
open Jvm Jvm.ClassFile Sem Op Lib Jvm.Free Jvm.Stand Jvm.Pilot.@@N@@.Jvm.D
/-! MADE BY PROGRAM (witnessworld.py) out of the Statement's table words and the real class files: 11 classes; the members and pool entries that the words name. The judged class is class 1, her method 1. -/
namespace start1
open Jvm.ClassFile
def u (s : String) : CpInfo := .utf8 (stringToUtf16 s)
/-- a pool by its gaps: so many unusable entries, then the entry; so many at the end -/
def gap : Nat → List CpInfo → List CpInfo
  | 0, r => r
  | n + 1, r => .unusable :: gap n r
def poolList (es : List (Nat × CpInfo)) (last : Nat) : List CpInfo := es.foldr (fun e r => gap e.1 (e.2 :: r)) (gap last [])
def pool (es : List (Nat × CpInfo)) (last : Nat) : Array CpInfo := ⟨poolList es last⟩
def fileOf (pool : Array CpInfo) (this : Nat) (attrs : Array Attribute := #[]) (ms : Array MethodInfo := #[]) (fl : Nat := 33) (sup : Nat := 0) (ifs : Array Nat := #[]) (fds : Array FieldInfo := #[]) : ClassFile where
  minorVersion := 0
  majorVersion := 65
  constantPool := pool
  accessFlags := fl
  thisClass := this
  superClass := sup
  interfaces := ifs
  fields := fds
  methods := ms
  attributes := attrs
def plain (name : String) (sup : Option ClassId) : Class where
  name := name
  kind := .ordinary
  loader := none
  accessFlags := 33
  super := sup
  interfaces := #[]
  cf := none
  fields := #[]
  methods := #[]
  instanceTypes := #[]
  staticTypes := #[]
  resolved := #[]
  callSites := []
  init := .initialized
  statics := none
  mirror := none

def pool0 : Array CpInfo := pool [(5, u "<init>"), (0, u "()V"), (1, .class_ 10), (1, u "java/lang/Object")] 113

def k0c0 : Code := { maxStack := 0, maxLocals := 1, code := object_method_1_code, exceptionTable := #[], attributes := #[] }
def k0m0 : Method := { name := "<init>", desc := "()V", sig := { parameters := [], returnType := none }, accessFlags := 1, code := some k0c0 }
/-- java/lang/Object -/
def k0 : Class := { plain "java/lang/Object" none with
  accessFlags := 33
  interfaces := #[]
  cf := some (fileOf pool0 8 #[] #[{ accessFlags := 1, nameIndex := 5, descriptorIndex := 6, attributes := #[] }] 33 0 #[] #[])
  fields := #[]
  methods := #[k0m0]
  instanceTypes := #[]
  staticTypes := #[]
  resolved := Array.replicate 124 none
  statics := none }

def pool1 : Array CpInfo := pool [(2, .class_ 4), (1, u "java/lang/Object"), (0, u "<init>"), (0, u "()V"), (0, .integer 2147483647), (0, .methodref 9 10), (0, .class_ 11), (0, .nameAndType 12 13), (0, u "java/lang/Math"), (0, u "max"), (0, u "(II)I"), (0, .class_ 15), (0, u "com/example/nodus/nodus/FullMesh"), (0, .methodref 14 17), (0, .nameAndType 5 18), (0, u "(I)V"), (2, .long 9223372036854775807), (1, .long 9223372036854775808), (1, .methodref 14 26), (0, .nameAndType 27 28), (0, u "contains"), (0, u "(J)Z"), (0, .class_ 30), (0, u "com/example/nodus/nodus/FullMeshContainsPinLaw"), (2, u "law"), (0, u "(IJII)Z")] 3

def k1m0 : Method := { name := "<init>", desc := "()V", sig := { parameters := [], returnType := none }, accessFlags := 1, code := none }
def k1c1 : Code := { maxStack := 4, maxLocals := 12, code := code, exceptionTable := #[], attributes := #[] }
def k1m1 : Method := { name := "law", desc := "(IJII)Z", sig := { parameters := [.int, .long, .int, .int], returnType := some .boolean }, accessFlags := 9, code := some k1c1 }
/-- com/example/nodus/nodus/FullMeshContainsPinLaw -/
def k1 : Class := { plain "com/example/nodus/nodus/FullMeshContainsPinLaw" (some 0) with
  accessFlags := 49
  interfaces := #[]
  cf := some (fileOf pool1 29 #[] #[{ accessFlags := 1, nameIndex := 5, descriptorIndex := 6, attributes := #[] }, { accessFlags := 9, nameIndex := 33, descriptorIndex := 34, attributes := #[] }] 49 2 #[] #[])
  fields := #[]
  methods := #[k1m0, k1m1]
  instanceTypes := #[]
  staticTypes := #[]
  resolved := Array.replicate 38 none
  statics := none }

def pool2 : Array CpInfo := pool [(1, .class_ 2), (0, u "java/lang/Math"), (1, .class_ 6), (1, u "java/lang/Object"), (0, u "<init>"), (0, u "()V"), (89, .class_ 100), (1, u "java/lang/Math$RandomNumberGeneratorHolder"), (71, u "negativeZeroFloatBits"), (0, u "J"), (2, u "negativeZeroDoubleBits"), (21, u "max"), (46, u "$assertionsDisabled"), (0, u "Z"), (88, u "(II)I"), (2, u "twoToTheDoubleScaleDown"), (0, u "D"), (4, u "twoToTheDoubleScaleUp"), (9, u "E"), (3, u "PI"), (2, u "TAU"), (2, u "DEGREES_TO_RADIANS"), (0, u "RADIANS_TO_DEGREES")] 94

def k2m0 : Method := { name := "<init>", desc := "()V", sig := { parameters := [], returnType := none }, accessFlags := 2, code := none }
def k2c1 : Code := { maxStack := 2, maxLocals := 2, code := jdk_29_method_65_code, exceptionTable := #[], attributes := #[] }
def k2m1 : Method := { name := "max", desc := "(II)I", sig := { parameters := [.int, .int], returnType := some .int }, accessFlags := 9, code := some k2c1 }
/-- java/lang/Math -/
def k2 : Class := { plain "java/lang/Math" (some 0) with
  accessFlags := 49
  interfaces := #[]
  cf := some (fileOf pool2 1 #[.nestMembers #[98]] #[{ accessFlags := 2, nameIndex := 7, descriptorIndex := 8, attributes := #[] }, { accessFlags := 9, nameIndex := 198, descriptorIndex := 335, attributes := #[] }] 49 4 #[] #[{ accessFlags := 25, nameIndex := 354, descriptorIndex := 339, attributes := #[] }, { accessFlags := 25, nameIndex := 358, descriptorIndex := 339, attributes := #[] }, { accessFlags := 25, nameIndex := 361, descriptorIndex := 339, attributes := #[] }, { accessFlags := 26, nameIndex := 364, descriptorIndex := 339, attributes := #[] }, { accessFlags := 26, nameIndex := 365, descriptorIndex := 339, attributes := #[] }, { accessFlags := 26, nameIndex := 172, descriptorIndex := 173, attributes := #[] }, { accessFlags := 26, nameIndex := 176, descriptorIndex := 173, attributes := #[] }, { accessFlags := 8, nameIndex := 344, descriptorIndex := 339, attributes := #[] }, { accessFlags := 8, nameIndex := 338, descriptorIndex := 339, attributes := #[] }, { accessFlags := 4120, nameIndex := 245, descriptorIndex := 246, attributes := #[] }])
  fields := #[{ name := "E", type := .double, accessFlags := 25, slot := 0, constantValue := 0 }, { name := "PI", type := .double, accessFlags := 25, slot := 1, constantValue := 0 }, { name := "TAU", type := .double, accessFlags := 25, slot := 2, constantValue := 0 }, { name := "DEGREES_TO_RADIANS", type := .double, accessFlags := 26, slot := 3, constantValue := 0 }, { name := "RADIANS_TO_DEGREES", type := .double, accessFlags := 26, slot := 4, constantValue := 0 }, { name := "negativeZeroFloatBits", type := .long, accessFlags := 26, slot := 5, constantValue := 0 }, { name := "negativeZeroDoubleBits", type := .long, accessFlags := 26, slot := 6, constantValue := 0 }, { name := "twoToTheDoubleScaleUp", type := .double, accessFlags := 8, slot := 7, constantValue := 0 }, { name := "twoToTheDoubleScaleDown", type := .double, accessFlags := 8, slot := 8, constantValue := 0 }, { name := "$assertionsDisabled", type := .boolean, accessFlags := 4120, slot := 9, constantValue := 0 }]
  methods := #[k2m0, k2m1]
  instanceTypes := #[]
  staticTypes := #[.double, .double, .double, .double, .double, .long, .long, .double, .double, .boolean]
  resolved := Array.replicate 460 none
  statics := none }

def pool3 : Array CpInfo := pool [(14, .class_ 16), (1, u "com/example/nodus/nodus/Topology"), (42, .class_ 60), (0, u "java/lang/Object")] 41

/-- com/example/nodus/nodus/Topology -/
def k3 : Class := { plain "com/example/nodus/nodus/Topology" (some 0) with
  accessFlags := 1537
  interfaces := #[]
  cf := some (fileOf pool3 14 #[] #[] 1537 59 #[] #[])
  fields := #[]
  methods := #[]
  instanceTypes := #[]
  staticTypes := #[]
  resolved := Array.replicate 102 none
  statics := none }

def pool4 : Array CpInfo := pool [(1, .methodref 2 3), (0, .class_ 4), (0, .nameAndType 5 6), (0, u "java/lang/Object"), (0, u "<init>"), (0, u "()V"), (9, .fieldref 17 18), (0, .class_ 19), (0, .nameAndType 20 21), (0, u "com/example/nodus/nodus/FullMesh"), (0, u "size"), (0, u "I"), (14, u "contains"), (0, u "(J)Z"), (7, .class_ 46), (0, u "com/example/nodus/nodus/Topology"), (0, u "(I)V")] 32

def k4c0 : Code := { maxStack := 3, maxLocals := 2, code := prog_15_method_1_code, exceptionTable := #[], attributes := #[] }
def k4m0 : Method := { name := "<init>", desc := "(I)V", sig := { parameters := [.int], returnType := none }, accessFlags := 0, code := some k4c0 }
def k4c1 : Code := { maxStack := 4, maxLocals := 3, code := prog_15_method_5_code, exceptionTable := #[], attributes := #[] }
def k4m1 : Method := { name := "contains", desc := "(J)Z", sig := { parameters := [.long], returnType := some .boolean }, accessFlags := 1, code := some k4c1 }
/-- com/example/nodus/nodus/FullMesh -/
def k4 : Class := { plain "com/example/nodus/nodus/FullMesh" (some 0) with
  accessFlags := 48
  interfaces := #[3]
  cf := some (fileOf pool4 17 #[] #[{ accessFlags := 0, nameIndex := 5, descriptorIndex := 47, attributes := #[] }, { accessFlags := 1, nameIndex := 36, descriptorIndex := 37, attributes := #[] }] 48 2 #[45] #[{ accessFlags := 18, nameIndex := 20, descriptorIndex := 21, attributes := #[] }])
  fields := #[{ name := "size", type := .int, accessFlags := 18, slot := 0, constantValue := 0 }]
  methods := #[k4m0, k4m1]
  instanceTypes := #[.int]
  staticTypes := #[]
  resolved := Array.replicate 80 none
  statics := none }

def pool5 : Array CpInfo := pool [(1, u "java/lang/Cloneable"), (0, .class_ 1), (0, u "java/lang/Object"), (0, .class_ 3)] 3

/-- java/lang/Cloneable -/
def k5 : Class := { plain "java/lang/Cloneable" (some 0) with
  accessFlags := 1537
  interfaces := #[]
  cf := some (fileOf pool5 2 #[] #[] 1537 4 #[] #[])
  fields := #[]
  methods := #[]
  instanceTypes := #[]
  staticTypes := #[]
  resolved := Array.replicate 8 none
  statics := none }

def pool6 : Array CpInfo := pool [(1, u "java/io/Serializable"), (0, .class_ 1), (0, u "java/lang/Object"), (0, .class_ 3)] 3

/-- java/io/Serializable -/
def k6 : Class := { plain "java/io/Serializable" (some 0) with
  accessFlags := 1537
  interfaces := #[]
  cf := some (fileOf pool6 2 #[] #[] 1537 4 #[] #[])
  fields := #[]
  methods := #[]
  instanceTypes := #[]
  staticTypes := #[]
  resolved := Array.replicate 8 none
  statics := none }

/-- the primitive byte -/
def k7 : Class := { plain "byte" none with kind := .primitive 'B', accessFlags := 0x411 }
/-- [B -/
def k8 : Class := { plain "[B" (some 0) with kind := .array 7 .byte, interfaces := #[5, 6], accessFlags := 1041 }

/-- the primitive int -/
def k9 : Class := { plain "int" none with kind := .primitive 'I', accessFlags := 0x411 }
/-- [I -/
def k10 : Class := { plain "[I" (some 0) with kind := .array 9 .int, interfaces := #[5, 6], accessFlags := 1041 }

def heap : Heap := #[]
def classes : Array Class := #[k0, k1, k2, k3, k4, k5, k6, k7, k8, k9, k10]
def interned : List (Array UInt16 × Addr) := []
def slotsUsed : Nat := 0
def theMethod : MethodId := ⟨1, 1⟩
def args0 : Array Value := #[.int 5, .long 3, .int 0, .int 0]
def aboutOver (below : List Frame) : State where
  vm := { classes := classes, interned := interned.toArray }
  heap := heap
  slotsUsed := slotsUsed
  threads := #[{ frames := .invoking theMethod args0 :: below }]
def below0 : List Frame := [.native { method := ⟨0, 0⟩, args := #[] }]
def about1 : State := aboutOver below0
def p0 : Program := .bare "" "" ""
def e0 : Env := launch0.env 0 0 0
theorem w_frames : about1.frames = Frame.invoking theMethod args0 :: below0 := rfl
set_option maxRecDepth 65536 in
theorem w_args : argsFit about1.vm theMethod args0 = true := by decide +kernel
set_option maxRecDepth 65536 in
theorem w_heap : heapFits about1 = true := by decide +kernel
set_option maxRecDepth 65536 in
theorem w_runnable : about1.curStatus? = some .runnable := by decide +kernel
set_option maxRecDepth 65536 in
theorem w_alone : about1.alone = true := by decide +kernel
set_option maxRecDepth 65536 in
theorem w_named : about1.methodNamed? x = some theMethod := by decide +kernel
set_option maxRecDepth 65536 in
theorem w_hears : about1.hears theMethod below0 = true := by decide +kernel
set_option maxRecDepth 65536 in
theorem w_ripe : about1.ripe theMethod args0 below0 = true := by decide +kernel
theorem w_running : about1.status = .running := rfl
set_option maxRecDepth 65536 in
theorem w_room : about1.hasRoom e0.platform room_1 = true :=
  launch0.hasRoom_least _ room_1 (by decide +kernel) (by decide +kernel) (by decide +kernel) (by decide +kernel) (by decide +kernel) (by decide +kernel)
theorem allAtoms_all (ts : List Jvm.Cond) (a : Array Jvm.Value) (st : Jvm.State) : (allAtoms ts).before a st = ts.all (fun c => c.before a st) := by
  induction ts with
  | nil => rfl
  | cons c t ih =>
    show (Jvm.Cond.and c (allAtoms t)).before a st = _
    rw [Jvm.Cond.before_and, ih, List.all_cons]
def words1 : List Jvm.Cond := Jvm.Cond.code x code maxLocals ret :: tables_1
/-- a 'code' word, met by the world's own term for the bytes: nothing is compared byte by byte -/
theorem code_word {y : MethodName} {bytes : ByteArray} {mx : Nat} {rt : Option FieldType} {a : Array Value} {s : State} {m : MethodId} {meth : Method} {c : Code} (h1 : s.methodNamed? y = some m) (h2 : s.vm.method? m = some meth) (h3 : meth.code = some c) (h4 : c.code = bytes)
    (h5 : (c.maxLocals == mx && c.exceptionTable.isEmpty && decide (c.maxStack ≤ mostOperands) && decide (meth.sig.returnType = rt) && !meth.locks && decide (parseMethodDescriptor y.desc = some meth.sig)) = true) : (Jvm.Cond.code y bytes mx rt).before a s = true := by
  simp only [Bool.and_eq_true, beq_iff_eq, Bool.not_eq_true', decide_eq_true_eq] at h5
  obtain ⟨⟨⟨⟨⟨g1, g2⟩, g3⟩, g4⟩, g5⟩, g6⟩ := h5
  simp [Cond.before, Cond.holds, Cond.value, h1, h2, h3, h4, g1, g2, g3, g4, g5, g6]
def isCode : Jvm.Cond → Bool
  | .code _ _ _ _ => true
  | _ => false
theorem all_split {L : List Jvm.Cond} {P : Jvm.Cond → Bool} (h1 : L.all (fun c => isCode c || P c) = true) (h2 : ∀ c ∈ L.filter isCode, P c = true) : L.all P = true := by
  refine List.all_eq_true.mpr fun c hc => ?_
  have h := List.all_eq_true.mp h1 c hc
  rcases Bool.eq_false_or_eq_true (isCode c) with hi | hi
  · exact h2 c (List.mem_filter.mpr ⟨hc, hi⟩)
  · simpa [hi] using h
set_option maxRecDepth 65536 in
theorem w_c0 : (Jvm.Cond.code x code maxLocals ret).before args0 about1 = true := code_word (m := ⟨1, 1⟩) (meth := k1m1) (c := k1c1) (by decide +kernel) rfl rfl rfl (by decide +kernel)
set_option maxRecDepth 65536 in
theorem w_c1 : (Jvm.Cond.code ({ cls := "java/lang/Math", name := "max", desc := "(II)I" } : Jvm.MethodName) jdk_29_method_65_code (2 : Nat) (Option.some Jvm.ClassFile.FieldType.int)).before args0 about1 = true := code_word (m := ⟨2, 1⟩) (meth := k2m1) (c := k2c1) (by decide +kernel) rfl rfl rfl (by decide +kernel)
set_option maxRecDepth 65536 in
theorem w_c2 : (Jvm.Cond.code ({ cls := "com/example/nodus/nodus/FullMesh", name := "<init>", desc := "(I)V" } : Jvm.MethodName) prog_15_method_1_code (2 : Nat) (Option.none : Option Jvm.ClassFile.FieldType)).before args0 about1 = true := code_word (m := ⟨4, 0⟩) (meth := k4m0) (c := k4c0) (by decide +kernel) rfl rfl rfl (by decide +kernel)
set_option maxRecDepth 65536 in
theorem w_c3 : (Jvm.Cond.code ({ cls := "java/lang/Object", name := "<init>", desc := "()V" } : Jvm.MethodName) object_method_1_code (1 : Nat) (Option.none : Option Jvm.ClassFile.FieldType)).before args0 about1 = true := code_word (m := ⟨0, 0⟩) (meth := k0m0) (c := k0c0) (by decide +kernel) rfl rfl rfl (by decide +kernel)
set_option maxRecDepth 65536 in
theorem w_c4 : (Jvm.Cond.code ({ cls := "com/example/nodus/nodus/FullMesh", name := "contains", desc := "(J)Z" } : Jvm.MethodName) prog_15_method_5_code (3 : Nat) (Option.some Jvm.ClassFile.FieldType.boolean)).before args0 about1 = true := code_word (m := ⟨4, 1⟩) (meth := k4m1) (c := k4c1) (by decide +kernel) rfl rfl rfl (by decide +kernel)
def codes1 : List Jvm.Cond := [Jvm.Cond.code x code maxLocals ret, Jvm.Cond.code ({ cls := "java/lang/Math", name := "max", desc := "(II)I" } : Jvm.MethodName) jdk_29_method_65_code (2 : Nat) (Option.some Jvm.ClassFile.FieldType.int), Jvm.Cond.code ({ cls := "com/example/nodus/nodus/FullMesh", name := "<init>", desc := "(I)V" } : Jvm.MethodName) prog_15_method_1_code (2 : Nat) (Option.none : Option Jvm.ClassFile.FieldType), Jvm.Cond.code ({ cls := "java/lang/Object", name := "<init>", desc := "()V" } : Jvm.MethodName) object_method_1_code (1 : Nat) (Option.none : Option Jvm.ClassFile.FieldType), Jvm.Cond.code ({ cls := "com/example/nodus/nodus/FullMesh", name := "contains", desc := "(J)Z" } : Jvm.MethodName) prog_15_method_5_code (3 : Nat) (Option.some Jvm.ClassFile.FieldType.boolean)]
set_option maxRecDepth 65536 in
theorem codes_eq : words1.filter isCode = codes1 := rfl
theorem w_codes : ∀ c ∈ words1.filter isCode, c.before args0 about1 = true := by
  rw [codes_eq]
  intro c hc
  simp only [codes1, List.mem_cons, List.not_mem_nil, or_false] at hc
  rcases hc with rfl | rfl | rfl | rfl | rfl
  · exact w_c0
  · exact w_c1
  · exact w_c2
  · exact w_c3
  · exact w_c4
set_option maxRecDepth 65536 in
theorem w_t1 : words1.all (fun c => isCode c || c.before args0 about1) = true := by decide +kernel
theorem w_tables : (allAtoms (Jvm.Cond.code x code maxLocals ret :: tables_1)).before args0 about1 = true := by
  rw [allAtoms_all]
  show words1.all (fun c => c.before args0 about1) = true
  refine all_split ?_ w_codes
  rw [w_t1]
set_option maxRecDepth 65536 in
theorem w_case : (Jvm.Cond.and given_1 narrow_1).before args0 about1 = true := by decide +kernel
theorem w_applies : (headSpec (Jvm.Cond.code x code maxLocals ret :: tables_1) room_1).applies x e0.platform about1 = true :=
  (Spec.applies_iff w_frames).mpr ⟨w_running, w_runnable, w_alone, w_named, w_hears, w_ripe, w_room, w_tables⟩
theorem atStart : AtStart classFile x code maxLocals ret World_1 tables_1 room_1 Calls_1 rest_1 Pre_1 launch0 p0 e0 about1 theMethod args0 below0 :=
  ⟨lists_1, trivial, launch0.admits_env _ _ _, launch0.least_env, fairChoices_fair.cas, fairChoices_fair.clock, w_frames, w_args, w_heap, w_applies, trivial, trivial, w_case⟩
end start1
theorem witness_1 : WitnessClaimed_1 := ⟨start1.p0, start1.e0, start1.about1, start1.theMethod, start1.args0, start1.below0, start1.atStart⟩
end Jvm.Pilot.@@N@@
