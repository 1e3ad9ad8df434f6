import JvmDerived
import JvmDerived.Pilot.@@N@@Statement
import JvmDerived.Pilot.@@N@@Code
set_option linter.unusedVariables false
set_option linter.unusedSimpArgs false
@@BLOCK:NumsL.lean.txt@@
namespace Jvm.RoadKit
open Sem ClassFile Op Lib Jvm.Stand Jvm.Free Jvm.LawKit
section New
variable {p : Program} {l : Launch} {e : Env} {R : Room} {s : State} {m : MethodId} {args : Array Value} {below : List Frame} {meth : Method} {c : Code} {T : State} {locs : List Loc} {cells slots : Nat}
theorem retI (X : Stand p l e R s m args below meth c T locs cells slots) (hx : p.tables.exec = Jvm.exec) {pc : Nat} {Ls : Array Slot} {z : Int32} {rest : List Value} (hret : meth.sig.returnType = some .int) (hd : decode c.code pc = .ok (.ireturn, 1)) {fs : List Frame}
    (hl : ∀ (f : JFrame) (acts : List Action), f.method = m → f.locked = none → f.entered = [] → (doReturn e (T.setTop f) acts (some (.int z))).1 = T.setFrames fs) : Steps p.tables e below (T.setTop (mkF m pc Ls (.int z :: rest))) (T.setFrames fs) := by
  have hm' : T.vm.method? m = some meth := X.method'
  have hn : narrow .int (.int z) = .int z := rfl
  show Steps p.tables e below (T.setTop { method := m, pc := pc, locals := Ls, stack := _ :: rest, locked := none }) _
  jvm_step X.here [X.here.top, hx, hd, hm', hret, hn]
  first | (intro acts; rw [hl _ acts rfl rfl rfl]) | rw [hl _ _ rfl rfl rfl]
  exact Steps.refl _
/-- the run from A comes to a return of which F says the value, the heap and the written places -/
def own_Goes (p : Program) (e : Env) (below : List Frame) (s : State) (F : Option Value → Heap → List Loc → Prop) (k n : Nat) (A : State) : Prop :=
  ∃ s₂ o, Steps p.tables e below A s₂ ∧ s₂.status = .running ∧ Ended s₂ below o ∧ ∃ v L, o = .returned v ∧ F v s₂.heap L ∧ FrameEnd s o s₂ L k n
variable {F : Option Value → Heap → List Loc → Prop} {k n : Nat}
theorem own_Goes.step {A B : State} (h : ∀ t, Steps p.tables e below B t → Steps p.tables e below A t) (g : own_Goes p e below s F k n B) : own_Goes p e below s F k n A := by
  obtain ⟨s₂, o, h1, h2⟩ := g
  exact ⟨s₂, o, h _ h1, h2⟩
theorem own_endI (X : Stand p l e R s m args below meth c T locs cells slots) (hx : p.tables.exec = Jvm.exec) (hlk : meth.locks = false) {pc : Nat} {Ls : Array Slot} {z : Int32} {rest : List Value} (hret : meth.sig.returnType = some .int) (hd : decode c.code pc = .ok (.ireturn, 1)) (hF : F (some (.int z)) T.heap locs) (hk : cells ≤ k) (hn : slots ≤ n) :
    own_Goes p e below s F k n (T.setTop (mkF m pc Ls (.int z :: rest))) := by
  obtain ⟨fs, hr, hrun, hended, hW, hsame⟩ := X.leave (v := some (.int z)) (fun h => by rw [hret] at h; cases h) hlk
  exact ⟨_, _, retI X hx hret hd hr, hrun, hended, _, _, rfl, hF, ⟨_, rfl⟩, hW, hsame.mono hk hn⟩
theorem own_endN (X : Stand p l e R s m args below meth c T locs cells slots) (hx : p.tables.exec = Jvm.exec) (hlk : meth.locks = false) {pc : Nat} {Ls : Array Slot} {z : Int32} {t : FieldType} {rest : List Value} (hret : meth.sig.returnType = some t) (ht : t = .boolean ∨ t = .byte ∨ t = .char ∨ t = .short) (hd : decode c.code pc = .ok (.ireturn, 1)) (hF : F (some (.int (nar t z))) T.heap locs) (hk : cells ≤ k) (hn : slots ≤ n) :
    own_Goes p e below s F k n (T.setTop (mkF m pc Ls (.int z :: rest))) := by
  obtain ⟨fs, hr, hrun, hended, hW, hsame⟩ := X.leave (v := some (.int (nar t z))) (fun h => by rw [hret] at h; cases h) hlk
  exact ⟨_, _, retN X hx hret ht hd hr, hrun, hended, _, _, rfl, hF, ⟨_, rfl⟩, hW, hsame.mono hk hn⟩
theorem own_endJ (X : Stand p l e R s m args below meth c T locs cells slots) (hx : p.tables.exec = Jvm.exec) (hlk : meth.locks = false) {pc : Nat} {Ls : Array Slot} {z : Int64} (hret : meth.sig.returnType = some .long) (hd : decode c.code pc = .ok (.lreturn, 1)) (hF : F (some (.long z)) T.heap locs) (hk : cells ≤ k) (hn : slots ≤ n) :
    own_Goes p e below s F k n (T.setTop (mkF m pc Ls [.long z])) := by
  obtain ⟨fs, hr, hrun, hended, hW, hsame⟩ := X.leave (v := some (.long z)) (fun h => by rw [hret] at h; cases h) hlk
  exact ⟨_, _, X.lreturnOut hx hret hd hr, hrun, hended, _, _, rfl, hF, ⟨_, rfl⟩, hW, hsame.mono hk hn⟩
theorem own_endV (X : Stand p l e R s m args below meth c T locs cells slots) (hx : p.tables.exec = Jvm.exec) (hlk : meth.locks = false) {pc : Nat} {Ls : Array Slot} (hret : meth.sig.returnType = none) (hd : decode c.code pc = .ok (.return_, 1)) (hF : F none T.heap locs) (hk : cells ≤ k) (hn : slots ≤ n) :
    own_Goes p e below s F k n (T.setTop (mkF m pc Ls [])) := by
  obtain ⟨fs, hr, hrun, hended, hW, hsame⟩ := X.leave (v := none) (fun _ => rfl) hlk
  exact ⟨_, _, X.returnOut hx hret hd hr, hrun, hended, _, _, rfl, hF, ⟨_, rfl⟩, hW, hsame.mono hk hn⟩
theorem own_endA (X : Stand p l e R s m args below meth c T locs cells slots) (hx : p.tables.exec = Jvm.exec) (hlk : meth.locks = false) {pc : Nat} {Ls : Array Slot} {w : Value} {t : FieldType} (hw : w.isRef = true) (hret : meth.sig.returnType = some t) (ht : t.isReference = true) (hd : decode c.code pc = .ok (.areturn, 1)) (hF : F (some w) T.heap locs) (hk : cells ≤ k) (hn : slots ≤ n) :
    own_Goes p e below s F k n (T.setTop (mkF m pc Ls [w])) := by
  obtain ⟨fs, hr, hrun, hended, hW, hsame⟩ := X.leave (v := some w) (fun h => by rw [hret] at h; cases h) hlk
  exact ⟨_, _, X.areturnOut hx hw hret ht hd hr, hrun, hended, _, _, rfl, hF, ⟨_, rfl⟩, hW, hsame.mono hk hn⟩
theorem own_lrem (x y : Int64) : x - x / y * y = x % y := by
  refine Int64.toInt_inj.mp ?_
  rw [Jvm.Kit.i64_rem, Int64.toInt_mod]
theorem own_lremM {g : JFrame} {target : State} (X : Stand p l e R s m args below meth c T locs cells slots) (hx : p.tables.exec = Jvm.exec) (hg : g.method = m) {x y : Int64} {rest : List Value} (hd : decode c.code g.pc = .ok (.lrem, 1)) (hs : g.stack = .long y :: .long x :: rest) (hy : y ≠ 0)
    (hr : Steps p.tables e below (T.setTop { g with pc := g.pc + 1, stack := .long (x % y) :: rest }) target) : Steps p.tables e below (T.setTop g) target :=
  XT.lrem X.here hx hg hd hs hy (by rw [own_lrem]; exact hr)
/-- the three calls, by a contract in this family, carried forward -/
theorem own_stat {Z : State} {a0 : Array Value} {h : Heap} (X : Stand p l e R s m args below meth c T locs cells slots) (hx : p.tables.exec = Jvm.exec) (hZ : Z.Warmed39 s.vm) (eT : T.heap = h) {own : String} {index : Nat} {y : MethodName} {bytes : ByteArray} {maxL : Nat} {ret : Option FieldType} {rm : Room} {W : Nat} {argsL rest : List Value} {Q : Option Value → Heap → List Loc → Prop}
    (hown : s.vm.findClass own = some m.cls) (wl : (Cond.methodLink own index y).before a0 Z = true) (wst : (Cond.static y).before a0 Z = true) (wi : (Cond.initialized y.cls).before a0 Z = true) (wc : (Cond.code y bytes maxL ret).before a0 Z = true) (hy : y.cls ≠ "java/lang/invoke/MethodHandle" ∧ y.cls ≠ "java/lang/invoke/VarHandle")
    (hM : MetFree l y (head1 [Cond.code y bytes maxL ret] rm) (fun a U => a = argsL.toArray ∧ Z.Warmed39 U.vm ∧ U.heap = h) (fun _ _ _ _ _ => True) (fun _ U o U' => ∃ w L, o = .returned w ∧ Q w U'.heap L ∧ FrameEnd U o U' L rm.cells rm.slots))
    (hf : rm.frames + 1 ≤ R.frames) (hl : W + (maxL + 11) + rm.locals ≤ R.locals) (hcells : cells + rm.cells ≤ R.cells) (hslots : slots + rm.slots ≤ R.slots)
    {g : JFrame} (hg : g.method = m) (hsize : g.locals.size = c.maxLocals) (hlen : ∀ sig, parseMethodDescriptor y.desc = some sig → argsL.length = sig.parameters.length) (hstack : g.stack = argsL.reverse ++ rest) (hW : 2 * g.monitorRoom + (rest.map fun v => v.category).sum ≤ W) (hdg : decode c.code g.pc = .ok (.invokestatic index, 3)) :
    ∃ w T' L, Q w T'.heap L ∧ Stand p l e R s m args below meth c T' (locs ++ L) (cells + rm.cells) (slots + rm.slots) ∧ ∀ t, Steps p.tables e below (T'.setTop { g with pc := g.pc + 3, stack := w.toList ++ rest }) t → Steps p.tables e below (T.setTop g) t := by
  have hB := backOf (R := R) (p := p) (e := e) (below := below) (args := args) (len := 3) (W := W) (Q := Q) hM hZ wc wi hf hl
  obtain ⟨w, vm₁, ⟨U, Lc, k1, n1⟩, -, X', ⟨L, hQ, hL, hC, hS⟩, st⟩ := Jvm.LawKit.callS X hx (y := y) hown (mvT hZ wl) (mvT hZ wst) (mvT hZ wi) (mvT hZ wc) hy hB (g := g) hg hsize hlen hstack hW hdg (fun _ _ => ⟨rfl, eT, hcells, hslots⟩)
  dsimp only [Pt.U, Pt.locs, Pt.cells, Pt.slots] at X' hQ hL hC hS st
  subst hL hC hS
  exact ⟨w, U, L, hQ, X', st⟩
theorem own_spec {Z : State} {a0 : Array Value} {h : Heap} (X : Stand p l e R s m args below meth c T locs cells slots) (hx : p.tables.exec = Jvm.exec) (hZ : Z.Warmed39 s.vm) (eT : T.heap = h) {own : String} {index : Nat} {y : MethodName} {bytes : ByteArray} {maxL : Nat} {rm : Room} {W : Nat} {a : Addr} {argsL rest : List Value} {Q : Option Value → Heap → List Loc → Prop}
    (hy1 : y.name = "<init>") (hown : s.vm.findClass own = some m.cls) (wl : (Cond.methodLink own index y).before a0 Z = true) (wst : (Cond.instanceMethod y).before a0 Z = true) (wi : (Cond.initialized y.cls).before a0 Z = true) (wc : (Cond.code y bytes maxL none).before a0 Z = true) (hy : y.cls ≠ "java/lang/invoke/MethodHandle" ∧ y.cls ≠ "java/lang/invoke/VarHandle")
    (hM : MetFree l y (head1 [Cond.code y bytes maxL none] rm) (fun b U => b = (.ref a :: argsL).toArray ∧ Z.Warmed39 U.vm ∧ U.heap = h) (fun _ _ _ _ _ => True) (fun _ U o U' => ∃ w L, o = .returned w ∧ Q w U'.heap L ∧ FrameEnd U o U' L rm.cells rm.slots))
    (hf : rm.frames + 1 ≤ R.frames) (hl : W + (maxL + 11) + rm.locals ≤ R.locals) (hcells : cells + rm.cells ≤ R.cells) (hslots : slots + rm.slots ≤ R.slots)
    {g : JFrame} (hg : g.method = m) (hsize : g.locals.size = c.maxLocals) (hlen : ∀ sig, parseMethodDescriptor y.desc = some sig → argsL.length = sig.parameters.length) (hstack : g.stack = argsL.reverse ++ .ref a :: rest) (hW : 2 * g.monitorRoom + (rest.map fun v => v.category).sum ≤ W) (hdg : decode c.code g.pc = .ok (.invokespecial index, 3)) :
    ∃ w T' L, Q w T'.heap L ∧ Stand p l e R s m args below meth c T' (locs ++ L) (cells + rm.cells) (slots + rm.slots) ∧ ∀ t, Steps p.tables e below (T'.setTop { g with pc := g.pc + 3, stack := w.toList ++ rest }) t → Steps p.tables e below (T.setTop g) t := by
  have hB := backOf (R := R) (p := p) (e := e) (below := below) (args := args) (len := 3) (W := W) (Q := Q) hM hZ wc wi hf hl
  obtain ⟨w, vm₁, ⟨U, Lc, k1, n1⟩, -, X', ⟨L, hQ, hL, hC, hS⟩, st⟩ := X.specialBack hx (y := y) hy1 hown (mvT hZ wl) (mvT hZ wst) (mvT hZ wc) hy hB (g := g) hg hsize (Steps.refl _) (a := a) hlen hstack hW hdg (fun _ _ => ⟨rfl, eT, hcells, hslots⟩)
  dsimp only [Pt.U, Pt.locs, Pt.cells, Pt.slots] at X' hQ hL hC hS st
  subst hL hC hS
  exact ⟨w, U, L, hQ, X', fun t k => st.trans k⟩
theorem own_virt {Z : State} {a0 : Array Value} {h : Heap} (X : Stand p l e R s m args below meth c T locs cells slots) (hx : p.tables.exec = Jvm.exec) (hZ : Z.Warmed39 s.vm) (eT : T.heap = h) {own C : String} {index : Nat} {y : MethodName} {bytes : ByteArray} {maxL : Nat} {ret : Option FieldType} {rm : Room} {W : Nat} {a : Addr} {argsL rest : List Value} {Q : Option Value → Heap → List Loc → Prop}
    (E : Exa Z h a C) (hown : s.vm.findClass own = some m.cls) (wl : (Cond.methodLink own index y).before a0 Z = true) (wd : (Cond.declares y).before a0 Z = true) (ws : (Cond.selects C y y).before a0 Z = true) (wst : (Cond.instanceMethod y).before a0 Z = true) (wi : (Cond.initialized y.cls).before a0 Z = true) (wc : (Cond.code y bytes maxL ret).before a0 Z = true) (hy : y.cls ≠ "java/lang/invoke/MethodHandle" ∧ y.cls ≠ "java/lang/invoke/VarHandle")
    (hM : MetFree l y (head1 [Cond.code y bytes maxL ret] rm) (fun b U => b = (.ref a :: argsL).toArray ∧ Z.Warmed39 U.vm ∧ U.heap = h) (fun _ _ _ _ _ => True) (fun _ U o U' => ∃ w L, o = .returned w ∧ Q w U'.heap L ∧ FrameEnd U o U' L rm.cells rm.slots))
    (hf : rm.frames + 1 ≤ R.frames) (hl : W + (maxL + 11) + rm.locals ≤ R.locals) (hcells : cells + rm.cells ≤ R.cells) (hslots : slots + rm.slots ≤ R.slots)
    {g : JFrame} (hg : g.method = m) (hsize : g.locals.size = c.maxLocals) (hlen : ∀ sig, parseMethodDescriptor y.desc = some sig → argsL.length = sig.parameters.length) (hstack : g.stack = argsL.reverse ++ .ref a :: rest) (hW : 2 * g.monitorRoom + (rest.map fun v => v.category).sum ≤ W) (hdg : decode c.code g.pc = .ok (.invokevirtual index, 3)) :
    ∃ w T' L, Q w T'.heap L ∧ Stand p l e R s m args below meth c T' (locs ++ L) (cells + rm.cells) (slots + rm.slots) ∧ ∀ t, Steps p.tables e below (T'.setTop { g with pc := g.pc + 3, stack := w.toList ++ rest }) t → Steps p.tables e below (T.setTop g) t := by
  have hB := backOf (R := R) (p := p) (e := e) (below := below) (args := args) (len := 3) (W := W) (Q := Q) hM hZ wc wi hf hl
  obtain ⟨cq, kq, qa, qb, qc⟩ := isOf hZ eT E
  obtain ⟨w, vm₁, ⟨U, Lc, k1, n1⟩, -, X', ⟨L, hQ, hL, hC, hS⟩, st⟩ := X.virtualBack hx (y := y) (z := y) hown (mvT hZ wl) (mvT hZ wd) (notFace_of_selects (args := #[]) (mvT hZ ws)) (mvT hZ ws) (mvT hZ wst) hy hB qa qc (g := g) hg hsize (Steps.refl _) hlen hstack hW hdg (fun _ _ => ⟨rfl, eT, hcells, hslots⟩)
  dsimp only [Pt.U, Pt.locs, Pt.cells, Pt.slots] at X' hQ hL hC hS st
  subst hL hC hS
  exact ⟨w, U, L, hQ, X', fun t k => st.trans k⟩
/-- a call that left nothing behind -/
theorem own_clean {h : Heap} {w v : Option Value} {T' : State} {L : List Loc} {k0 n0 : Nat} (q : w = v ∧ L = [] ∧ T'.heap = h) (X : Stand p l e R s m args below meth c T' (locs ++ L) (cells + k0) (slots + n0)) (hk : k0 = 0) (hn : n0 = 0) : T'.heap = h ∧ Stand p l e R s m args below meth c T' locs cells slots := by
  obtain ⟨-, rfl, hh⟩ := q
  subst hk hn
  rw [List.append_nil] at X
  exact ⟨hh, X⟩
theorem own_nin {a b : Addr} (q : b ≠ a) : b ∉ [a] := fun h => q (List.mem_singleton.mp h)
theorem own_kt {h0 : Heap} {ws : List Addr} {a : Addr} (q : a ∈ ws ∨ h0.size ≤ a) : ∀ x ∈ [a], x ∈ ws ∨ h0.size ≤ x := fun x hx => by
  cases List.mem_singleton.mp hx; exact q
end New
end Jvm.RoadKit
namespace Jvm.Pilot.@@N@@
open Jvm Jvm.ClassFile Sem Op Lib Jvm.Free Jvm.Stand Jvm.LawKit Jvm.RoadKit Bundle Jvm.Pilot.@@N@@.Jvm.D
/-! plain facts on ints and longs -/
theorem own_char16 (u : UInt16) : (u.toUInt32.toInt32).toInt = u.toNat := by
  have h := u.toNat_lt
  show BitVec.toInt u.toUInt32.toBitVec = _
  rw [BitVec.toInt_eq_toNat_of_lt (by simp; omega)]
  simp
theorem own_char (y : Int32) : 0 ≤ (y.toUInt32.toUInt16.toUInt32.toInt32).toInt ∧ (y.toUInt32.toUInt16.toUInt32.toInt32).toInt < 65536 := by
  rw [own_char16]
  have h := y.toUInt32.toUInt16.toNat_lt
  omega
theorem own_fin32 {P : Int32 → Prop} (n : Nat) (h : ∀ k : Fin n, P (Int32.ofNat k)) (c : Int32) (h0 : 0 ≤ c.toInt) (h1 : c.toInt < n) : P c := by
  have e : c = Int32.ofNat c.toInt.toNat := by
    apply Int32.toInt_inj.mp
    have hb := c.toInt_lt
    rw [Int32.toInt_ofNat_of_lt (by omega)]
    omega
  rw [e]
  exact h ⟨c.toInt.toNat, by omega⟩
theorem own_lt32 (x y : Int32) : (x < y) ↔ x.toInt < y.toInt := Int32.lt_iff_toInt_lt
theorem own_eq32 (x y : Int32) : (x = y) ↔ x.toInt = y.toInt := Int32.toInt_inj.symm
theorem own_lt64 (x y : Int64) : (x < y) ↔ x.toInt < y.toInt := Int64.lt_iff_toInt_lt
theorem own_eq64 (x y : Int64) : (x = y) ↔ x.toInt = y.toInt := Int64.toInt_inj.symm
theorem d4_0 : decode prog_61_method_2_code 0 = .ok (.aload_n 0, 1) := by decide +kernel
theorem d4_1 : decode prog_61_method_2_code 1 = .ok (.getfield 13, 3) := by decide +kernel
theorem d4_4 : decode prog_61_method_2_code 4 = .ok (.aload_n 0, 1) := by decide +kernel
theorem d4_5 : decode prog_61_method_2_code 5 = .ok (.getfield 7, 3) := by decide +kernel
theorem d4_8 : decode prog_61_method_2_code 8 = .ok (.isub, 1) := by decide +kernel
theorem d4_9 : decode prog_61_method_2_code 9 = .ok (.iconst 1, 1) := by decide +kernel
theorem d4_10 : decode prog_61_method_2_code 10 = .ok (.iadd, 1) := by decide +kernel
theorem d4_11 : decode prog_61_method_2_code 11 = .ok (.ireturn, 1) := by decide +kernel
theorem pn_4 : plainName "com/example/shiftweave/shiftweave/WorkedDays$Run" = true := by first | (simp [plainName, overriddenIn]; done) | decide +kernel
theorem pd_4 : parseMethodDescriptor "()I" = some ⟨[], (some .int)⟩ := by decide +kernel
theorem ef_4 (m : MethodId) (x0 : Addr) : entryFrame m #[(.ref x0)] 1 = mkF m 0 #[.val (.ref x0)] [] := by first | (simp [entryFrame, mkF, argsToLocals, Value.category]; done) | rfl
def own_f4 (vl : Int32) (vf : Int32) : Int32 := ((vl - vf) + (1 : Int32))
def own_F4 (Z : State) (x0 : Addr) (vl : Int32) (vf : Int32) (h0 : Heap) (v : Option Value) (h : Heap) (L : List Loc) : Prop := v = some (.int (own_f4 vl vf)) ∧ L = [] ∧ h = h0
set_option maxRecDepth 65536 in
set_option maxHeartbeats 40000000 in
theorem own_m4 (l : Launch) (Z : State) (a0 : Array Value) (hw : ∀ d ∈ tables_1, d.before a0 Z = true) (ws : List Jvm.Cond) (x0 : Addr) (vl : Int32) (vf : Int32) (h0 : Heap) (P0 : Fld Z h0 x0 "com/example/shiftweave/shiftweave/WorkedDays$Run" "last" "I" (.int vl)) (P1 : Fld Z h0 x0 "com/example/shiftweave/shiftweave/WorkedDays$Run" "first" "I" (.int vf))  :
    MetFree l (⟨"com/example/shiftweave/shiftweave/WorkedDays$Run", "length", "()I"⟩ : MethodName) (head1 (Jvm.Cond.code (⟨"com/example/shiftweave/shiftweave/WorkedDays$Run", "length", "()I"⟩ : MethodName) prog_61_method_2_code 1 (some .int) :: ws) ({ frames := 0, cells := 0, slots := 0, locals := 0 } : Room)) (fun a U => a = #[(.ref x0)] ∧ Z.Warmed39 U.vm ∧ U.heap = h0) (fun _ _ _ _ _ => True) (fun _ U o U' => ∃ v L, o = .returned v ∧ own_F4 Z x0 vl vf h0 v U'.heap L ∧ FrameEnd U o U' L ({ frames := 0, cells := 0, slots := 0, locals := 0 } : Room).cells ({ frames := 0, cells := 0, slots := 0, locals := 0 } : Room).slots) := by
  refine MetFree.of_bodySF (plainFor_of_name pn_4) hisR ?_
  intro p e s m args below meth c s₁ Bd hml0 hP hK
  obtain ⟨rfl, hZ, hh⟩ := hP
  have hx := Bd.exec
  have hby := Bd.bytes
  have hml : c.maxLocals = 1 := hml0
  have hown : s.vm.findClass "com/example/shiftweave/shiftweave/WorkedDays$Run" = some m.cls := findClass_of_methodNamed Bd.named
  have hnm := (name_of_methodNamed Bd.named Bd.method).1
  have X0 : Stand p l e ({ frames := 0, cells := 0, slots := 0, locals := 0 } : Room) s m #[(.ref x0)] below meth c s₁ [] 0 0 := Stand.of_body Bd
  have e0 : s₁.heap = h0 := by rw [← hh, Bd.state]; rfl
  have hgo : own_Goes p e below s (own_F4 Z x0 vl vf h0) 0 0 (s₁.setTop (mkF m 0 #[.val (.ref x0)] [])) := by
    refine own_Goes.step (fun t k => XS.aloadN X0.here hx rfl (hb hby d4_0) rfl rfl k) ?_
    show own_Goes p e below s (own_F4 Z x0 vl vf h0) 0 0 (s₁.setTop (mkF m 1 #[.val (.ref x0)] [(.ref x0)]))
    obtain ⟨T1, X1, e1, st1⟩ := getF X0 hx hZ hown (host := "") (Or.inl (hw _ (List.mem_of_getElem? (i := 16) rfl))) Via.refl e0 P0 (g := (mkF m 1 #[.val (.ref x0)] [(.ref x0)])) rfl rfl (hb hby d4_1)
    refine own_Goes.step st1 ?_
    show own_Goes p e below s (own_F4 Z x0 vl vf h0) 0 0 (T1.setTop (mkF m 4 #[.val (.ref x0)] [(.int vl)]))
    refine own_Goes.step (fun t k => XS.aloadN X1.here hx rfl (hb hby d4_4) rfl rfl k) ?_
    show own_Goes p e below s (own_F4 Z x0 vl vf h0) 0 0 (T1.setTop (mkF m 5 #[.val (.ref x0)] [(.ref x0), (.int vl)]))
    obtain ⟨T2, X2, e2, st2⟩ := getF X1 hx hZ hown (host := "") (Or.inl (hw _ (List.mem_of_getElem? (i := 14) rfl))) Via.refl e1 P1 (g := (mkF m 5 #[.val (.ref x0)] [(.ref x0), (.int vl)])) rfl rfl (hb hby d4_5)
    refine own_Goes.step st2 ?_
    show own_Goes p e below s (own_F4 Z x0 vl vf h0) 0 0 (T2.setTop (mkF m 8 #[.val (.ref x0)] [(.int vf), (.int vl)]))
    refine own_Goes.step (fun t k => XS.isub X2.here hx rfl (hb hby d4_8) rfl k) ?_
    show own_Goes p e below s (own_F4 Z x0 vl vf h0) 0 0 (T2.setTop (mkF m 9 #[.val (.ref x0)] [(.int (vl - vf))]))
    refine own_Goes.step (fun t k => XT.iconstV X2.here hx rfl (1 : Int32) (hb hby d4_9) (by decide) k) ?_
    show own_Goes p e below s (own_F4 Z x0 vl vf h0) 0 0 (T2.setTop (mkF m 10 #[.val (.ref x0)] [(.int (1 : Int32)), (.int (vl - vf))]))
    refine own_Goes.step (fun t k => XS.iadd X2.here hx rfl (hb hby d4_10) rfl k) ?_
    show own_Goes p e below s (own_F4 Z x0 vl vf h0) 0 0 (T2.setTop (mkF m 11 #[.val (.ref x0)] [(.int ((vl - vf) + (1 : Int32)))]))
    exact own_endI X2 hx Bd.notSynchronized Bd.returns (hb hby d4_11) ⟨(congrArg (fun z => some (Value.int z)) (show ((vl - vf) + (1 : Int32)) = own_f4 vl vf from by simp only [own_f4])), rfl, e2⟩ (by decide) (by decide)
  obtain ⟨t2, o2, q1, q2, q3, q4⟩ := hgo
  exact ⟨t2, o2, castTop (ef_4 m x0) q1, q2, q3, q4⟩
theorem d2_0 : decode jdk_30_method_1_code 0 = .ok (.aload_n 0, 1) := by decide +kernel
theorem d2_1 : decode jdk_30_method_1_code 1 = .ok (.invokespecial 1, 3) := by decide +kernel
theorem d2_4 : decode jdk_30_method_1_code 4 = .ok (.return_, 1) := by decide +kernel
theorem pn_2 : plainName "java/lang/Record" = true := by first | (simp [plainName, overriddenIn]; done) | decide +kernel
theorem pd_2 : parseMethodDescriptor "()V" = some ⟨[], none⟩ := by decide +kernel
theorem ef_2 (m : MethodId) (x0 : Addr) : entryFrame m #[(.ref x0)] 1 = mkF m 0 #[.val (.ref x0)] [] := by first | (simp [entryFrame, mkF, argsToLocals, Value.category]; done) | rfl
def own_F2 (Z : State) (x0 : Addr)  (h0 : Heap) (v : Option Value) (h : Heap) (L : List Loc) : Prop := v = none ∧ L = [] ∧ h = h0
set_option maxRecDepth 65536 in
set_option maxHeartbeats 40000000 in
theorem own_m2 (l : Launch) (Z : State) (a0 : Array Value) (hw : ∀ d ∈ tables_1, d.before a0 Z = true) (ws : List Jvm.Cond) (x0 : Addr)  (h0 : Heap)   :
    MetFree l (⟨"java/lang/Record", "<init>", "()V"⟩ : MethodName) (head1 (Jvm.Cond.code (⟨"java/lang/Record", "<init>", "()V"⟩ : MethodName) jdk_30_method_1_code 1 none :: ws) ({ frames := 1, cells := 0, slots := 0, locals := 12 } : Room)) (fun a U => a = #[(.ref x0)] ∧ Z.Warmed39 U.vm ∧ U.heap = h0) (fun _ _ _ _ _ => True) (fun _ U o U' => ∃ v L, o = .returned v ∧ own_F2 Z x0 h0 v U'.heap L ∧ FrameEnd U o U' L ({ frames := 1, cells := 0, slots := 0, locals := 12 } : Room).cells ({ frames := 1, cells := 0, slots := 0, locals := 12 } : Room).slots) := by
  refine MetFree.of_bodySF (plainFor_of_name pn_2) hisR ?_
  intro p e s m args below meth c s₁ Bd hml0 hP hK
  obtain ⟨rfl, hZ, hh⟩ := hP
  have hx := Bd.exec
  have hby := Bd.bytes
  have hml : c.maxLocals = 1 := hml0
  have hown : s.vm.findClass "java/lang/Record" = some m.cls := findClass_of_methodNamed Bd.named
  have hnm := (name_of_methodNamed Bd.named Bd.method).1
  have X0 : Stand p l e ({ frames := 1, cells := 0, slots := 0, locals := 12 } : Room) s m #[(.ref x0)] below meth c s₁ [] 0 0 := Stand.of_body Bd
  have e0 : s₁.heap = h0 := by rw [← hh, Bd.state]; rfl
  have hgo : own_Goes p e below s (own_F2 Z x0 h0) 0 0 (s₁.setTop (mkF m 0 #[.val (.ref x0)] [])) := by
    refine own_Goes.step (fun t k => XS.aloadN X0.here hx rfl (hb hby d2_0) rfl rfl k) ?_
    show own_Goes p e below s (own_F2 Z x0 h0) 0 0 (s₁.setTop (mkF m 1 #[.val (.ref x0)] [(.ref x0)]))
    obtain ⟨T1, X1, e1, st1⟩ := initO X0 hx hZ hown (hw _ (List.mem_of_getElem? (i := 11) rfl)) (hw _ (List.mem_of_getElem? (i := 12) rfl)) (hw _ (List.mem_of_getElem? (i := 13) rfl)) e0 (g := (mkF m 1 #[.val (.ref x0)] [(.ref x0)])) rfl (by rw [hml]; rfl) rfl (hb hby d2_1) (by decide) (W := 0) (by show 2 * 0 + _ ≤ _; exact Nat.le_of_eq rfl) (by decide)
    refine own_Goes.step st1 ?_
    show own_Goes p e below s (own_F2 Z x0 h0) 0 0 (T1.setTop (mkF m 4 #[.val (.ref x0)] []))
    exact own_endV X1 hx Bd.notSynchronized Bd.returns (hb hby d2_4) ⟨rfl, rfl, e1⟩ (by decide) (by decide)
  obtain ⟨t2, o2, q1, q2, q3, q4⟩ := hgo
  exact ⟨t2, o2, castTop (ef_2 m x0) q1, q2, q3, q4⟩
theorem d1_0 : decode prog_61_method_1_code 0 = .ok (.aload_n 0, 1) := by decide +kernel
theorem d1_1 : decode prog_61_method_1_code 1 = .ok (.invokespecial 1, 3) := by decide +kernel
theorem d1_4 : decode prog_61_method_1_code 4 = .ok (.aload_n 0, 1) := by decide +kernel
theorem d1_5 : decode prog_61_method_1_code 5 = .ok (.iload_n 1, 1) := by decide +kernel
theorem d1_6 : decode prog_61_method_1_code 6 = .ok (.putfield 7, 3) := by decide +kernel
theorem d1_9 : decode prog_61_method_1_code 9 = .ok (.aload_n 0, 1) := by decide +kernel
theorem d1_10 : decode prog_61_method_1_code 10 = .ok (.iload_n 2, 1) := by decide +kernel
theorem d1_11 : decode prog_61_method_1_code 11 = .ok (.putfield 13, 3) := by decide +kernel
theorem d1_14 : decode prog_61_method_1_code 14 = .ok (.return_, 1) := by decide +kernel
theorem pn_1 : plainName "com/example/shiftweave/shiftweave/WorkedDays$Run" = true := by first | (simp [plainName, overriddenIn]; done) | decide +kernel
theorem pd_1 : parseMethodDescriptor "(II)V" = some ⟨[.int, .int], none⟩ := by decide +kernel
theorem ef_1 (m : MethodId) (x0 : Addr) (x1 : Int32) (x2 : Int32) : entryFrame m #[(.ref x0), (.int x1), (.int x2)] 3 = mkF m 0 #[.val (.ref x0), .val (.int x1), .val (.int x2)] [] := by first | (simp [entryFrame, mkF, argsToLocals, Value.category]; done) | rfl
def own_f1_first (x1 : Int32) (x2 : Int32) : Int32 := x1
def own_f1_last (x1 : Int32) (x2 : Int32) : Int32 := x2
def own_F1 (Z : State) (x0 : Addr) (x1 : Int32) (x2 : Int32)  (n0 : Nat) (h0 : Heap) (v : Option Value) (h : Heap) (L : List Loc) : Prop := v = none ∧ Fr n0 L ∧ Keep h0 h [x0] ∧ Exa Z h x0 "com/example/shiftweave/shiftweave/WorkedDays$Run" ∧ Fld Z h x0 "com/example/shiftweave/shiftweave/WorkedDays$Run" "first" "I" (.int (own_f1_first x1 x2)) ∧ Fld Z h x0 "com/example/shiftweave/shiftweave/WorkedDays$Run" "last" "I" (.int (own_f1_last x1 x2))
set_option maxRecDepth 65536 in
set_option maxHeartbeats 40000000 in
theorem own_m1 (l : Launch) (Z : State) (a0 : Array Value) (hw : ∀ d ∈ tables_1, d.before a0 Z = true) (ws : List Jvm.Cond) (x0 : Addr) (x1 : Int32) (x2 : Int32)  (n0 : Nat) (h0 : Heap) (E0 : Exa Z h0 x0 "com/example/shiftweave/shiftweave/WorkedDays$Run") (g0 : n0 ≤ x0) (P0 : Fld Z h0 x0 "com/example/shiftweave/shiftweave/WorkedDays$Run" "first" "I" (.int (0 : Int32))) (P1 : Fld Z h0 x0 "com/example/shiftweave/shiftweave/WorkedDays$Run" "last" "I" (.int (0 : Int32)))  :
    MetFree l (⟨"com/example/shiftweave/shiftweave/WorkedDays$Run", "<init>", "(II)V"⟩ : MethodName) (head1 (Jvm.Cond.code (⟨"com/example/shiftweave/shiftweave/WorkedDays$Run", "<init>", "(II)V"⟩ : MethodName) prog_61_method_1_code 3 none :: ws) ({ frames := 2, cells := 0, slots := 0, locals := 24 } : Room)) (fun a U => a = #[(.ref x0), (.int x1), (.int x2)] ∧ Z.Warmed39 U.vm ∧ U.heap = h0) (fun _ _ _ _ _ => True) (fun _ U o U' => ∃ v L, o = .returned v ∧ own_F1 Z x0 x1 x2 n0 h0 v U'.heap L ∧ FrameEnd U o U' L ({ frames := 2, cells := 0, slots := 0, locals := 24 } : Room).cells ({ frames := 2, cells := 0, slots := 0, locals := 24 } : Room).slots) := by
  refine MetFree.of_bodySF (plainFor_of_name pn_1) hisR ?_
  intro p e s m args below meth c s₁ Bd hml0 hP hK
  obtain ⟨rfl, hZ, hh⟩ := hP
  have hx := Bd.exec
  have hby := Bd.bytes
  have hml : c.maxLocals = 3 := hml0
  have hown : s.vm.findClass "com/example/shiftweave/shiftweave/WorkedDays$Run" = some m.cls := findClass_of_methodNamed Bd.named
  have hnm := (name_of_methodNamed Bd.named Bd.method).1
  have X0 : Stand p l e ({ frames := 2, cells := 0, slots := 0, locals := 24 } : Room) s m #[(.ref x0), (.int x1), (.int x2)] below meth c s₁ [] 0 0 := Stand.of_body Bd
  have e0 : s₁.heap = h0 := by rw [← hh, Bd.state]; rfl
  have N0 := Fr.nil n0
  have K0 : Keep h0 h0 [x0] := Keep.refl h0 [x0]
  have Z0 : n0 ≤ h0.size := Nat.le_trans g0 (Nat.le_of_lt E0.lt)
  have hgo : own_Goes p e below s (own_F1 Z x0 x1 x2 n0 h0) 0 0 (s₁.setTop (mkF m 0 #[.val (.ref x0), .val (.int x1), .val (.int x2)] [])) := by
    refine own_Goes.step (fun t k => XS.aloadN X0.here hx rfl (hb hby d1_0) rfl rfl k) ?_
    show own_Goes p e below s (own_F1 Z x0 x1 x2 n0 h0) 0 0 (s₁.setTop (mkF m 1 #[.val (.ref x0), .val (.int x1), .val (.int x2)] [(.ref x0)]))
    obtain ⟨w1, T1, L1, q1, Y1, st1⟩ := own_spec X0 hx hZ e0 rfl hown (hw _ (List.mem_of_getElem? (i := 6) rfl)) (hw _ (List.mem_of_getElem? (i := 7) rfl)) (hw _ (List.mem_of_getElem? (i := 9) rfl)) (hw _ (List.mem_of_getElem? (i := 10) rfl)) (by decide) (own_m2 l Z a0 hw [] x0  h0  ) (by decide) (W := 0) (by decide) (by decide) (by decide) (g := (mkF m 1 #[.val (.ref x0), .val (.int x1), .val (.int x2)] [(.ref x0)])) rfl (by rw [hml]; rfl) (a := x0) (argsL := []) (rest := []) (lenOf pd_2 rfl) rfl (by show 2 * 0 + _ ≤ _; exact Nat.le_of_eq rfl) (hb hby d1_1)
    obtain ⟨e1, X1⟩ := own_clean q1 Y1 rfl rfl
    obtain ⟨rfl, -, -⟩ := q1
    refine own_Goes.step st1 ?_
    show own_Goes p e below s (own_F1 Z x0 x1 x2 n0 h0) 0 0 (T1.setTop (mkF m 4 #[.val (.ref x0), .val (.int x1), .val (.int x2)] []))
    refine own_Goes.step (fun t k => XS.aloadN X1.here hx rfl (hb hby d1_4) rfl rfl k) ?_
    show own_Goes p e below s (own_F1 Z x0 x1 x2 n0 h0) 0 0 (T1.setTop (mkF m 5 #[.val (.ref x0), .val (.int x1), .val (.int x2)] [(.ref x0)]))
    refine own_Goes.step (fun t k => XS.iloadN X1.here hx rfl (hb hby d1_5) rfl k) ?_
    show own_Goes p e below s (own_F1 Z x0 x1 x2 n0 h0) 0 0 (T1.setTop (mkF m 6 #[.val (.ref x0), .val (.int x1), .val (.int x2)] [(.int x1), (.ref x0)]))
    obtain ⟨T2, h2, X2, e2, W2, st2⟩ := putF X1 hx hZ hown (host := "") (Or.inl (hw _ (List.mem_of_getElem? (i := 14) rfl))) Via.refl e1 (v := (.int x1)) P0 E0 (Or.inr ⟨(hw _ (List.mem_of_getElem? (i := 15) rfl)), rfl, hnm⟩) (hw _ (List.mem_of_getElem? (i := 1) rfl)) (ty := .int) (by decide) rfl rfl (g := (mkF m 6 #[.val (.ref x0), .val (.int x1), .val (.int x2)] [(.int x1), (.ref x0)])) rfl rfl (hb hby d1_6)
    refine own_Goes.step st2 ?_
    have f3 := E0.wr W2
    have f4 := P0.same W2
    have f5 := P1.other W2 (Or.inr (slot_ne (Or.inr (hw _ (List.mem_of_getElem? (i := 17) rfl))) (Or.inr (hw _ (List.mem_of_getElem? (i := 15) rfl))) (by decide) (t := .int) (t' := .int) (by decide) (by decide)))
    have K6 := K0.wr W2 (Or.inl (List.mem_of_getElem? (i := 0) rfl))
    have N7 := Fr.snoc X2 N0 g0
    have Z8 : n0 ≤ h2.size := Nat.le_trans Z0 (Keep.of_wr W2).1
    show own_Goes p e below s (own_F1 Z x0 x1 x2 n0 h0) 0 0 (T2.setTop (mkF m 9 #[.val (.ref x0), .val (.int x1), .val (.int x2)] []))
    refine own_Goes.step (fun t k => XS.aloadN X2.here hx rfl (hb hby d1_9) rfl rfl k) ?_
    show own_Goes p e below s (own_F1 Z x0 x1 x2 n0 h0) 0 0 (T2.setTop (mkF m 10 #[.val (.ref x0), .val (.int x1), .val (.int x2)] [(.ref x0)]))
    refine own_Goes.step (fun t k => XS.iloadN X2.here hx rfl (hb hby d1_10) rfl k) ?_
    show own_Goes p e below s (own_F1 Z x0 x1 x2 n0 h0) 0 0 (T2.setTop (mkF m 11 #[.val (.ref x0), .val (.int x1), .val (.int x2)] [(.int x2), (.ref x0)]))
    obtain ⟨T9, h9, X9, e9, W9, st9⟩ := putF X2 hx hZ hown (host := "") (Or.inl (hw _ (List.mem_of_getElem? (i := 16) rfl))) Via.refl e2 (v := (.int x2)) f5 f3 (Or.inr ⟨(hw _ (List.mem_of_getElem? (i := 17) rfl)), rfl, hnm⟩) (hw _ (List.mem_of_getElem? (i := 1) rfl)) (ty := .int) (by decide) rfl rfl (g := (mkF m 11 #[.val (.ref x0), .val (.int x1), .val (.int x2)] [(.int x2), (.ref x0)])) rfl rfl (hb hby d1_11)
    refine own_Goes.step st9 ?_
    have f10 := f3.wr W9
    have f11 := f4.other W9 (Or.inr (slot_ne (Or.inr (hw _ (List.mem_of_getElem? (i := 15) rfl))) (Or.inr (hw _ (List.mem_of_getElem? (i := 17) rfl))) (by decide) (t := .int) (t' := .int) (by decide) (by decide)))
    have f12 := f5.same W9
    have K13 := K6.wr W9 (Or.inl (List.mem_of_getElem? (i := 0) rfl))
    have N14 := Fr.snoc X9 N7 g0
    have Z15 : n0 ≤ h9.size := Nat.le_trans Z8 (Keep.of_wr W9).1
    show own_Goes p e below s (own_F1 Z x0 x1 x2 n0 h0) 0 0 (T9.setTop (mkF m 14 #[.val (.ref x0), .val (.int x1), .val (.int x2)] []))
    refine own_endV X9 hx Bd.notSynchronized Bd.returns (hb hby d1_14) ?_ (by decide) (by decide)
    show own_F1 Z x0 x1 x2 n0 h0 _ T9.heap _
    rw [e9]
    exact ⟨rfl, N14, K13, f10, f11, f12⟩
  obtain ⟨t2, o2, q1, q2, q3, q4⟩ := hgo
  exact ⟨t2, o2, castTop (ef_1 m x0 x1 x2) q1, q2, q3, q4⟩
theorem pn_0 : plainName "com/example/shiftweave/shiftweave/RunLengthPinLaw" = true := by first | (simp [plainName, overriddenIn]; done) | decide +kernel
theorem pd_0 : parseMethodDescriptor "(III)Z" = some ⟨[.int, .int, .int], (some .boolean)⟩ := by decide +kernel
theorem ef_0 (m : MethodId) (x0 : Int32) (x1 : Int32) (x2 : Int32) : entryFrame m #[(.int x0), (.int x1), (.int x2)] maxLocals = mkF m 0 #[.val (.int x0), .val (.int x1), .val (.int x2), .unset, .unset, .unset, .unset, .unset, .unset] [] := by first | (simp [entryFrame, mkF, argsToLocals, Value.category, maxLocals]; done) | rfl
def own_f0_1 (x0 : Int32) (x1 : Int32) (x2 : Int32) : Int32 := (if (own_f4 (own_f1_last x0 x0) (own_f1_first x0 x0)) = (1 : Int32) then (1 : Int32) else (0 : Int32))
def own_f0_2 (x0 : Int32) (x1 : Int32) (x2 : Int32) : Int32 := (if ((own_f4 (own_f1_last x0 x1) (own_f1_first x0 x1)) + (own_f4 (own_f1_last (x1 + (1 : Int32)) x2) (own_f1_first (x1 + (1 : Int32)) x2))) = (own_f4 (own_f1_last x0 x2) (own_f1_first x0 x2)) then (1 : Int32) else (0 : Int32))
def own_f0 (x0 : Int32) (x1 : Int32) (x2 : Int32) : Int32 := (if (own_f0_1 x0 x1 x2) = (0 : Int32) then (0 : Int32) else (if (own_f0_2 x0 x1 x2) = (0 : Int32) then (0 : Int32) else (1 : Int32)))
def own_F0 (Z : State) (x0 : Int32) (x1 : Int32) (x2 : Int32)  (n0 : Nat) (h0 : Heap) (v : Option Value) (h : Heap) (L : List Loc) : Prop := v = some (.int (own_f0 x0 x1 x2)) ∧ Fr n0 L
set_option maxRecDepth 65536 in
set_option maxHeartbeats 40000000 in
theorem own_m0 (l : Launch) (Z : State) (a0 : Array Value) (hw : ∀ d ∈ tables_1, d.before a0 Z = true) (ws : List Jvm.Cond) (x0 : Int32) (x1 : Int32) (x2 : Int32)  (n0 : Nat) (h0 : Heap) (Z0 : n0 ≤ h0.size)   :
    MetFree l x (head1 (Jvm.Cond.code x code maxLocals ret :: ws) room_1) (fun a U => a = #[(.int x0), (.int x1), (.int x2)] ∧ Z.Warmed39 U.vm ∧ U.heap = h0) (fun _ _ _ _ _ => True) (fun _ U o U' => ∃ v L, o = .returned v ∧ own_F0 Z x0 x1 x2 n0 h0 v U'.heap L ∧ FrameEnd U o U' L room_1.cells room_1.slots) := by
  refine MetFree.of_bodySF (plainFor_of_name pn_0) hisR ?_
  intro p e s m args below meth c s₁ Bd hml0 hP hK
  obtain ⟨rfl, hZ, hh⟩ := hP
  have hx := Bd.exec
  have hby := Bd.bytes
  have hml : c.maxLocals = 9 := hml0
  have hown : s.vm.findClass "com/example/shiftweave/shiftweave/RunLengthPinLaw" = some m.cls := findClass_of_methodNamed Bd.named
  have hnm := (name_of_methodNamed Bd.named Bd.method).1
  have X0 : Stand p l e room_1 s m #[(.int x0), (.int x1), (.int x2)] below meth c s₁ [] 0 0 := Stand.of_body Bd
  have e0 : s₁.heap = h0 := by rw [← hh, Bd.state]; rfl
  have N0 := Fr.nil n0
  have K0 : Keep h0 h0 [] := Keep.refl h0 []
  have hgo : own_Goes p e below s (own_F0 Z x0 x1 x2 n0 h0) room_1.cells room_1.slots (s₁.setTop (mkF m 0 #[.val (.int x0), .val (.int x1), .val (.int x2), .unset, .unset, .unset, .unset, .unset, .unset] [])) := by
    obtain ⟨T1, h1, X1, e1, E1, A1, D1, -, st1⟩ := newO X0 hx hZ hown (hw _ (List.mem_of_getElem? (i := 0) rfl)) (hw _ (List.mem_of_getElem? (i := 1) rfl)) (hw _ (List.mem_of_getElem? (i := 2) rfl)) e0 (g := (mkF m 0 #[.val (.int x0), .val (.int x1), .val (.int x2), .unset, .unset, .unset, .unset, .unset, .unset] [])) rfl (hb hby at_0) (by decide) (by decide)
    obtain ⟨a1, g1⟩ : ∃ z, z = h0.size := ⟨_, rfl⟩
    rw [← g1] at A1 D1 st1
    have f2 : Fld Z h1 a1 "com/example/shiftweave/shiftweave/WorkedDays$Run" "first" "I" (.int (0 : Int32)) := D1 (Or.inr (hw _ (List.mem_of_getElem? (i := 15) rfl))) (ty := .int) (by decide)
    have f3 : Fld Z h1 a1 "com/example/shiftweave/shiftweave/WorkedDays$Run" "last" "I" (.int (0 : Int32)) := D1 (Or.inr (hw _ (List.mem_of_getElem? (i := 17) rfl))) (ty := .int) (by decide)
    have ga1 : n0 ≤ a1 := Nat.le_trans Z0 (Nat.le_of_eq g1.symm)
    have Z1 : n0 ≤ h1.size := Nat.le_trans Z0 E1.1
    have K1 := K0.ext E1
    have Kh1 : h0.size ≤ a1 := Nat.le_trans K0.1 (Nat.le_of_eq g1.symm)
    refine own_Goes.step st1 ?_
    show own_Goes p e below s (own_F0 Z x0 x1 x2 n0 h0) room_1.cells room_1.slots (T1.setTop (mkF m 3 #[.val (.int x0), .val (.int x1), .val (.int x2), .unset, .unset, .unset, .unset, .unset, .unset] [(.ref a1)]))
    refine own_Goes.step (fun t k => XS.dup X1.here hx rfl (hb hby at_3) rfl rfl k) ?_
    show own_Goes p e below s (own_F0 Z x0 x1 x2 n0 h0) room_1.cells room_1.slots (T1.setTop (mkF m 4 #[.val (.int x0), .val (.int x1), .val (.int x2), .unset, .unset, .unset, .unset, .unset, .unset] [(.ref a1), (.ref a1)]))
    refine own_Goes.step (fun t k => XS.iloadN X1.here hx rfl (hb hby at_4) rfl k) ?_
    show own_Goes p e below s (own_F0 Z x0 x1 x2 n0 h0) room_1.cells room_1.slots (T1.setTop (mkF m 5 #[.val (.int x0), .val (.int x1), .val (.int x2), .unset, .unset, .unset, .unset, .unset, .unset] [(.int x0), (.ref a1), (.ref a1)]))
    refine own_Goes.step (fun t k => XS.iloadN X1.here hx rfl (hb hby at_5) rfl k) ?_
    show own_Goes p e below s (own_F0 Z x0 x1 x2 n0 h0) room_1.cells room_1.slots (T1.setTop (mkF m 6 #[.val (.int x0), .val (.int x1), .val (.int x2), .unset, .unset, .unset, .unset, .unset, .unset] [(.int x0), (.int x0), (.ref a1), (.ref a1)]))
    obtain ⟨w5, T5, L5, q5, Y5, st5⟩ := own_spec X1 hx hZ e1 rfl hown (hw _ (List.mem_of_getElem? (i := 3) rfl)) (hw _ (List.mem_of_getElem? (i := 4) rfl)) (hw _ (List.mem_of_getElem? (i := 2) rfl)) (hw _ (List.mem_of_getElem? (i := 5) rfl)) (by decide) (own_m1 l Z a0 hw [] a1 x0 x0 n0 h1 A1 ga1 f2 f3  ) (by decide) (W := 1) (by decide) (by decide) (by decide) (g := (mkF m 6 #[.val (.int x0), .val (.int x1), .val (.int x2), .unset, .unset, .unset, .unset, .unset, .unset] [(.int x0), (.int x0), (.ref a1), (.ref a1)])) rfl (by rw [hml]; rfl) (a := a1) (argsL := [(.int x0), (.int x0)]) (rest := [(.ref a1)]) (lenOf pd_1 rfl) rfl (by show 2 * 0 + _ ≤ _; exact Nat.le_of_eq rfl) (hb hby at_6)
    obtain ⟨rfl, N5, K5, E5, c5_0, c5_1⟩ := q5
    have N9 := Fr.app N0 N5
    have Z10 : n0 ≤ T5.heap.size := Nat.le_trans Z1 K5.1
    have K11 := K1.trans K5 (own_kt (Or.inr Kh1))
    refine own_Goes.step st5 ?_
    show own_Goes p e below s (own_F0 Z x0 x1 x2 n0 h0) room_1.cells room_1.slots (T5.setTop (mkF m 9 #[.val (.int x0), .val (.int x1), .val (.int x2), .unset, .unset, .unset, .unset, .unset, .unset] [(.ref a1)]))
    refine own_Goes.step (fun t k => XS.astoreN Y5.here hx rfl (hb hby at_9) rfl rfl (l' := #[.val (.int x0), .val (.int x1), .val (.int x2), .val (.ref a1), .unset, .unset, .unset, .unset, .unset]) rfl k) ?_
    show own_Goes p e below s (own_F0 Z x0 x1 x2 n0 h0) room_1.cells room_1.slots (T5.setTop (mkF m 10 #[.val (.int x0), .val (.int x1), .val (.int x2), .val (.ref a1), .unset, .unset, .unset, .unset, .unset] []))
    obtain ⟨T12, h12, X12, e12, E12, A12, D12, -, st12⟩ := newO Y5 hx hZ hown (hw _ (List.mem_of_getElem? (i := 0) rfl)) (hw _ (List.mem_of_getElem? (i := 1) rfl)) (hw _ (List.mem_of_getElem? (i := 2) rfl)) rfl (g := (mkF m 10 #[.val (.int x0), .val (.int x1), .val (.int x2), .val (.ref a1), .unset, .unset, .unset, .unset, .unset] [])) rfl (hb hby at_10) (by decide) (by decide)
    obtain ⟨a12, g12⟩ : ∃ z, z = T5.heap.size := ⟨_, rfl⟩
    rw [← g12] at A12 D12 st12
    have ne13 : a1 ≠ a12 := by rw [g12]; exact Nat.ne_of_lt E5.lt
    have f14 := Jvm.RoadKit.Exa.ext E12 E5
    have f15 := Jvm.RoadKit.Fld.ext E12 c5_0
    have f16 := Jvm.RoadKit.Fld.ext E12 c5_1
    have f17 : Fld Z h12 a12 "com/example/shiftweave/shiftweave/WorkedDays$Run" "first" "I" (.int (0 : Int32)) := D12 (Or.inr (hw _ (List.mem_of_getElem? (i := 15) rfl))) (ty := .int) (by decide)
    have f18 : Fld Z h12 a12 "com/example/shiftweave/shiftweave/WorkedDays$Run" "last" "I" (.int (0 : Int32)) := D12 (Or.inr (hw _ (List.mem_of_getElem? (i := 17) rfl))) (ty := .int) (by decide)
    have ga12 : n0 ≤ a12 := Nat.le_trans Z10 (Nat.le_of_eq g12.symm)
    have Z12 : n0 ≤ h12.size := Nat.le_trans Z10 E12.1
    have K12 := K11.ext E12
    have Kh12 : h0.size ≤ a12 := Nat.le_trans K11.1 (Nat.le_of_eq g12.symm)
    refine own_Goes.step st12 ?_
    show own_Goes p e below s (own_F0 Z x0 x1 x2 n0 h0) room_1.cells room_1.slots (T12.setTop (mkF m 13 #[.val (.int x0), .val (.int x1), .val (.int x2), .val (.ref a1), .unset, .unset, .unset, .unset, .unset] [(.ref a12)]))
    refine own_Goes.step (fun t k => XS.dup X12.here hx rfl (hb hby at_13) rfl rfl k) ?_
    show own_Goes p e below s (own_F0 Z x0 x1 x2 n0 h0) room_1.cells room_1.slots (T12.setTop (mkF m 14 #[.val (.int x0), .val (.int x1), .val (.int x2), .val (.ref a1), .unset, .unset, .unset, .unset, .unset] [(.ref a12), (.ref a12)]))
    refine own_Goes.step (fun t k => XS.iloadN X12.here hx rfl (hb hby at_14) rfl k) ?_
    show own_Goes p e below s (own_F0 Z x0 x1 x2 n0 h0) room_1.cells room_1.slots (T12.setTop (mkF m 15 #[.val (.int x0), .val (.int x1), .val (.int x2), .val (.ref a1), .unset, .unset, .unset, .unset, .unset] [(.int x0), (.ref a12), (.ref a12)]))
    refine own_Goes.step (fun t k => XS.iloadN X12.here hx rfl (hb hby at_15) rfl k) ?_
    show own_Goes p e below s (own_F0 Z x0 x1 x2 n0 h0) room_1.cells room_1.slots (T12.setTop (mkF m 16 #[.val (.int x0), .val (.int x1), .val (.int x2), .val (.ref a1), .unset, .unset, .unset, .unset, .unset] [(.int x1), (.int x0), (.ref a12), (.ref a12)]))
    obtain ⟨w20, T20, L20, q20, Y20, st20⟩ := own_spec X12 hx hZ e12 rfl hown (hw _ (List.mem_of_getElem? (i := 3) rfl)) (hw _ (List.mem_of_getElem? (i := 4) rfl)) (hw _ (List.mem_of_getElem? (i := 2) rfl)) (hw _ (List.mem_of_getElem? (i := 5) rfl)) (by decide) (own_m1 l Z a0 hw [] a12 x0 x1 n0 h12 A12 ga12 f17 f18  ) (by decide) (W := 1) (by decide) (by decide) (by decide) (g := (mkF m 16 #[.val (.int x0), .val (.int x1), .val (.int x2), .val (.ref a1), .unset, .unset, .unset, .unset, .unset] [(.int x1), (.int x0), (.ref a12), (.ref a12)])) rfl (by rw [hml]; rfl) (a := a12) (argsL := [(.int x0), (.int x1)]) (rest := [(.ref a12)]) (lenOf pd_1 rfl) rfl (by show 2 * 0 + _ ≤ _; exact Nat.le_of_eq rfl) (hb hby at_16)
    obtain ⟨rfl, N20, K20, E20, c20_0, c20_1⟩ := q20
    have f21 := f14.keep K20
    have f22 := f15.keep K20 (own_nin ne13)
    have f23 := f16.keep K20 (own_nin ne13)
    have N27 := Fr.app N9 N20
    have Z28 : n0 ≤ T20.heap.size := Nat.le_trans Z12 K20.1
    have K29 := K12.trans K20 (own_kt (Or.inr Kh12))
    refine own_Goes.step st20 ?_
    show own_Goes p e below s (own_F0 Z x0 x1 x2 n0 h0) room_1.cells room_1.slots (T20.setTop (mkF m 19 #[.val (.int x0), .val (.int x1), .val (.int x2), .val (.ref a1), .unset, .unset, .unset, .unset, .unset] [(.ref a12)]))
    refine own_Goes.step (fun t k => XS.astore Y20.here hx rfl (hb hby at_19) rfl rfl (l' := #[.val (.int x0), .val (.int x1), .val (.int x2), .val (.ref a1), .val (.ref a12), .unset, .unset, .unset, .unset]) rfl k) ?_
    show own_Goes p e below s (own_F0 Z x0 x1 x2 n0 h0) room_1.cells room_1.slots (T20.setTop (mkF m 21 #[.val (.int x0), .val (.int x1), .val (.int x2), .val (.ref a1), .val (.ref a12), .unset, .unset, .unset, .unset] []))
    obtain ⟨T30, h30, X30, e30, E30, A30, D30, -, st30⟩ := newO Y20 hx hZ hown (hw _ (List.mem_of_getElem? (i := 0) rfl)) (hw _ (List.mem_of_getElem? (i := 1) rfl)) (hw _ (List.mem_of_getElem? (i := 2) rfl)) rfl (g := (mkF m 21 #[.val (.int x0), .val (.int x1), .val (.int x2), .val (.ref a1), .val (.ref a12), .unset, .unset, .unset, .unset] [])) rfl (hb hby at_21) (by decide) (by decide)
    obtain ⟨a30, g30⟩ : ∃ z, z = T20.heap.size := ⟨_, rfl⟩
    rw [← g30] at A30 D30 st30
    have ne31 : a1 ≠ a30 := by rw [g30]; exact Nat.ne_of_lt f21.lt
    have ne32 : a12 ≠ a30 := by rw [g30]; exact Nat.ne_of_lt E20.lt
    have f33 := Jvm.RoadKit.Exa.ext E30 f21
    have f34 := Jvm.RoadKit.Fld.ext E30 f22
    have f35 := Jvm.RoadKit.Fld.ext E30 f23
    have f36 := Jvm.RoadKit.Exa.ext E30 E20
    have f37 := Jvm.RoadKit.Fld.ext E30 c20_0
    have f38 := Jvm.RoadKit.Fld.ext E30 c20_1
    have f39 : Fld Z h30 a30 "com/example/shiftweave/shiftweave/WorkedDays$Run" "first" "I" (.int (0 : Int32)) := D30 (Or.inr (hw _ (List.mem_of_getElem? (i := 15) rfl))) (ty := .int) (by decide)
    have f40 : Fld Z h30 a30 "com/example/shiftweave/shiftweave/WorkedDays$Run" "last" "I" (.int (0 : Int32)) := D30 (Or.inr (hw _ (List.mem_of_getElem? (i := 17) rfl))) (ty := .int) (by decide)
    have ga30 : n0 ≤ a30 := Nat.le_trans Z28 (Nat.le_of_eq g30.symm)
    have Z30 : n0 ≤ h30.size := Nat.le_trans Z28 E30.1
    have K30 := K29.ext E30
    have Kh30 : h0.size ≤ a30 := Nat.le_trans K29.1 (Nat.le_of_eq g30.symm)
    refine own_Goes.step st30 ?_
    show own_Goes p e below s (own_F0 Z x0 x1 x2 n0 h0) room_1.cells room_1.slots (T30.setTop (mkF m 24 #[.val (.int x0), .val (.int x1), .val (.int x2), .val (.ref a1), .val (.ref a12), .unset, .unset, .unset, .unset] [(.ref a30)]))
    refine own_Goes.step (fun t k => XS.dup X30.here hx rfl (hb hby at_24) rfl rfl k) ?_
    show own_Goes p e below s (own_F0 Z x0 x1 x2 n0 h0) room_1.cells room_1.slots (T30.setTop (mkF m 25 #[.val (.int x0), .val (.int x1), .val (.int x2), .val (.ref a1), .val (.ref a12), .unset, .unset, .unset, .unset] [(.ref a30), (.ref a30)]))
    refine own_Goes.step (fun t k => XS.iloadN X30.here hx rfl (hb hby at_25) rfl k) ?_
    show own_Goes p e below s (own_F0 Z x0 x1 x2 n0 h0) room_1.cells room_1.slots (T30.setTop (mkF m 26 #[.val (.int x0), .val (.int x1), .val (.int x2), .val (.ref a1), .val (.ref a12), .unset, .unset, .unset, .unset] [(.int x1), (.ref a30), (.ref a30)]))
    refine own_Goes.step (fun t k => XT.iconstV X30.here hx rfl (1 : Int32) (hb hby at_26) (by decide) k) ?_
    show own_Goes p e below s (own_F0 Z x0 x1 x2 n0 h0) room_1.cells room_1.slots (T30.setTop (mkF m 27 #[.val (.int x0), .val (.int x1), .val (.int x2), .val (.ref a1), .val (.ref a12), .unset, .unset, .unset, .unset] [(.int (1 : Int32)), (.int x1), (.ref a30), (.ref a30)]))
    refine own_Goes.step (fun t k => XS.iadd X30.here hx rfl (hb hby at_27) rfl k) ?_
    show own_Goes p e below s (own_F0 Z x0 x1 x2 n0 h0) room_1.cells room_1.slots (T30.setTop (mkF m 28 #[.val (.int x0), .val (.int x1), .val (.int x2), .val (.ref a1), .val (.ref a12), .unset, .unset, .unset, .unset] [(.int (x1 + (1 : Int32))), (.ref a30), (.ref a30)]))
    refine own_Goes.step (fun t k => XS.iloadN X30.here hx rfl (hb hby at_28) rfl k) ?_
    show own_Goes p e below s (own_F0 Z x0 x1 x2 n0 h0) room_1.cells room_1.slots (T30.setTop (mkF m 29 #[.val (.int x0), .val (.int x1), .val (.int x2), .val (.ref a1), .val (.ref a12), .unset, .unset, .unset, .unset] [(.int x2), (.int (x1 + (1 : Int32))), (.ref a30), (.ref a30)]))
    obtain ⟨w42, T42, L42, q42, Y42, st42⟩ := own_spec X30 hx hZ e30 rfl hown (hw _ (List.mem_of_getElem? (i := 3) rfl)) (hw _ (List.mem_of_getElem? (i := 4) rfl)) (hw _ (List.mem_of_getElem? (i := 2) rfl)) (hw _ (List.mem_of_getElem? (i := 5) rfl)) (by decide) (own_m1 l Z a0 hw [] a30 (x1 + (1 : Int32)) x2 n0 h30 A30 ga30 f39 f40  ) (by decide) (W := 1) (by decide) (by decide) (by decide) (g := (mkF m 29 #[.val (.int x0), .val (.int x1), .val (.int x2), .val (.ref a1), .val (.ref a12), .unset, .unset, .unset, .unset] [(.int x2), (.int (x1 + (1 : Int32))), (.ref a30), (.ref a30)])) rfl (by rw [hml]; rfl) (a := a30) (argsL := [(.int (x1 + (1 : Int32))), (.int x2)]) (rest := [(.ref a30)]) (lenOf pd_1 rfl) rfl (by show 2 * 0 + _ ≤ _; exact Nat.le_of_eq rfl) (hb hby at_29)
    obtain ⟨rfl, N42, K42, E42, c42_0, c42_1⟩ := q42
    have f43 := f33.keep K42
    have f44 := f34.keep K42 (own_nin ne31)
    have f45 := f35.keep K42 (own_nin ne31)
    have f46 := f36.keep K42
    have f47 := f37.keep K42 (own_nin ne32)
    have f48 := f38.keep K42 (own_nin ne32)
    have N52 := Fr.app N27 N42
    have Z53 : n0 ≤ T42.heap.size := Nat.le_trans Z30 K42.1
    have K54 := K30.trans K42 (own_kt (Or.inr Kh30))
    refine own_Goes.step st42 ?_
    show own_Goes p e below s (own_F0 Z x0 x1 x2 n0 h0) room_1.cells room_1.slots (T42.setTop (mkF m 32 #[.val (.int x0), .val (.int x1), .val (.int x2), .val (.ref a1), .val (.ref a12), .unset, .unset, .unset, .unset] [(.ref a30)]))
    refine own_Goes.step (fun t k => XS.astore Y42.here hx rfl (hb hby at_32) rfl rfl (l' := #[.val (.int x0), .val (.int x1), .val (.int x2), .val (.ref a1), .val (.ref a12), .val (.ref a30), .unset, .unset, .unset]) rfl k) ?_
    show own_Goes p e below s (own_F0 Z x0 x1 x2 n0 h0) room_1.cells room_1.slots (T42.setTop (mkF m 34 #[.val (.int x0), .val (.int x1), .val (.int x2), .val (.ref a1), .val (.ref a12), .val (.ref a30), .unset, .unset, .unset] []))
    obtain ⟨T55, h55, X55, e55, E55, A55, D55, -, st55⟩ := newO Y42 hx hZ hown (hw _ (List.mem_of_getElem? (i := 0) rfl)) (hw _ (List.mem_of_getElem? (i := 1) rfl)) (hw _ (List.mem_of_getElem? (i := 2) rfl)) rfl (g := (mkF m 34 #[.val (.int x0), .val (.int x1), .val (.int x2), .val (.ref a1), .val (.ref a12), .val (.ref a30), .unset, .unset, .unset] [])) rfl (hb hby at_34) (by decide) (by decide)
    obtain ⟨a55, g55⟩ : ∃ z, z = T42.heap.size := ⟨_, rfl⟩
    rw [← g55] at A55 D55 st55
    have ne56 : a1 ≠ a55 := by rw [g55]; exact Nat.ne_of_lt f43.lt
    have ne57 : a12 ≠ a55 := by rw [g55]; exact Nat.ne_of_lt f46.lt
    have ne58 : a30 ≠ a55 := by rw [g55]; exact Nat.ne_of_lt E42.lt
    have f59 := Jvm.RoadKit.Exa.ext E55 f43
    have f60 := Jvm.RoadKit.Fld.ext E55 f44
    have f61 := Jvm.RoadKit.Fld.ext E55 f45
    have f62 := Jvm.RoadKit.Exa.ext E55 f46
    have f63 := Jvm.RoadKit.Fld.ext E55 f47
    have f64 := Jvm.RoadKit.Fld.ext E55 f48
    have f65 := Jvm.RoadKit.Exa.ext E55 E42
    have f66 := Jvm.RoadKit.Fld.ext E55 c42_0
    have f67 := Jvm.RoadKit.Fld.ext E55 c42_1
    have f68 : Fld Z h55 a55 "com/example/shiftweave/shiftweave/WorkedDays$Run" "first" "I" (.int (0 : Int32)) := D55 (Or.inr (hw _ (List.mem_of_getElem? (i := 15) rfl))) (ty := .int) (by decide)
    have f69 : Fld Z h55 a55 "com/example/shiftweave/shiftweave/WorkedDays$Run" "last" "I" (.int (0 : Int32)) := D55 (Or.inr (hw _ (List.mem_of_getElem? (i := 17) rfl))) (ty := .int) (by decide)
    have ga55 : n0 ≤ a55 := Nat.le_trans Z53 (Nat.le_of_eq g55.symm)
    have Z55 : n0 ≤ h55.size := Nat.le_trans Z53 E55.1
    have K55 := K54.ext E55
    have Kh55 : h0.size ≤ a55 := Nat.le_trans K54.1 (Nat.le_of_eq g55.symm)
    refine own_Goes.step st55 ?_
    show own_Goes p e below s (own_F0 Z x0 x1 x2 n0 h0) room_1.cells room_1.slots (T55.setTop (mkF m 37 #[.val (.int x0), .val (.int x1), .val (.int x2), .val (.ref a1), .val (.ref a12), .val (.ref a30), .unset, .unset, .unset] [(.ref a55)]))
    refine own_Goes.step (fun t k => XS.dup X55.here hx rfl (hb hby at_37) rfl rfl k) ?_
    show own_Goes p e below s (own_F0 Z x0 x1 x2 n0 h0) room_1.cells room_1.slots (T55.setTop (mkF m 38 #[.val (.int x0), .val (.int x1), .val (.int x2), .val (.ref a1), .val (.ref a12), .val (.ref a30), .unset, .unset, .unset] [(.ref a55), (.ref a55)]))
    refine own_Goes.step (fun t k => XS.iloadN X55.here hx rfl (hb hby at_38) rfl k) ?_
    show own_Goes p e below s (own_F0 Z x0 x1 x2 n0 h0) room_1.cells room_1.slots (T55.setTop (mkF m 39 #[.val (.int x0), .val (.int x1), .val (.int x2), .val (.ref a1), .val (.ref a12), .val (.ref a30), .unset, .unset, .unset] [(.int x0), (.ref a55), (.ref a55)]))
    refine own_Goes.step (fun t k => XS.iloadN X55.here hx rfl (hb hby at_39) rfl k) ?_
    show own_Goes p e below s (own_F0 Z x0 x1 x2 n0 h0) room_1.cells room_1.slots (T55.setTop (mkF m 40 #[.val (.int x0), .val (.int x1), .val (.int x2), .val (.ref a1), .val (.ref a12), .val (.ref a30), .unset, .unset, .unset] [(.int x2), (.int x0), (.ref a55), (.ref a55)]))
    obtain ⟨w71, T71, L71, q71, Y71, st71⟩ := own_spec X55 hx hZ e55 rfl hown (hw _ (List.mem_of_getElem? (i := 3) rfl)) (hw _ (List.mem_of_getElem? (i := 4) rfl)) (hw _ (List.mem_of_getElem? (i := 2) rfl)) (hw _ (List.mem_of_getElem? (i := 5) rfl)) (by decide) (own_m1 l Z a0 hw [] a55 x0 x2 n0 h55 A55 ga55 f68 f69  ) (by decide) (W := 1) (by decide) (by decide) (by decide) (g := (mkF m 40 #[.val (.int x0), .val (.int x1), .val (.int x2), .val (.ref a1), .val (.ref a12), .val (.ref a30), .unset, .unset, .unset] [(.int x2), (.int x0), (.ref a55), (.ref a55)])) rfl (by rw [hml]; rfl) (a := a55) (argsL := [(.int x0), (.int x2)]) (rest := [(.ref a55)]) (lenOf pd_1 rfl) rfl (by show 2 * 0 + _ ≤ _; exact Nat.le_of_eq rfl) (hb hby at_40)
    obtain ⟨rfl, N71, K71, E71, c71_0, c71_1⟩ := q71
    have f72 := f59.keep K71
    have f73 := f60.keep K71 (own_nin ne56)
    have f74 := f61.keep K71 (own_nin ne56)
    have f75 := f62.keep K71
    have f76 := f63.keep K71 (own_nin ne57)
    have f77 := f64.keep K71 (own_nin ne57)
    have f78 := f65.keep K71
    have f79 := f66.keep K71 (own_nin ne58)
    have f80 := f67.keep K71 (own_nin ne58)
    have N84 := Fr.app N52 N71
    have Z85 : n0 ≤ T71.heap.size := Nat.le_trans Z55 K71.1
    have K86 := K55.trans K71 (own_kt (Or.inr Kh55))
    refine own_Goes.step st71 ?_
    show own_Goes p e below s (own_F0 Z x0 x1 x2 n0 h0) room_1.cells room_1.slots (T71.setTop (mkF m 43 #[.val (.int x0), .val (.int x1), .val (.int x2), .val (.ref a1), .val (.ref a12), .val (.ref a30), .unset, .unset, .unset] [(.ref a55)]))
    refine own_Goes.step (fun t k => XS.astore Y71.here hx rfl (hb hby at_43) rfl rfl (l' := #[.val (.int x0), .val (.int x1), .val (.int x2), .val (.ref a1), .val (.ref a12), .val (.ref a30), .val (.ref a55), .unset, .unset]) rfl k) ?_
    show own_Goes p e below s (own_F0 Z x0 x1 x2 n0 h0) room_1.cells room_1.slots (T71.setTop (mkF m 45 #[.val (.int x0), .val (.int x1), .val (.int x2), .val (.ref a1), .val (.ref a12), .val (.ref a30), .val (.ref a55), .unset, .unset] []))
    refine own_Goes.step (fun t k => XS.aloadN Y71.here hx rfl (hb hby at_45) rfl rfl k) ?_
    show own_Goes p e below s (own_F0 Z x0 x1 x2 n0 h0) room_1.cells room_1.slots (T71.setTop (mkF m 46 #[.val (.int x0), .val (.int x1), .val (.int x2), .val (.ref a1), .val (.ref a12), .val (.ref a30), .val (.ref a55), .unset, .unset] [(.ref a1)]))
    obtain ⟨w87, T87, L87, q87, Y87, st87⟩ := own_virt Y71 hx hZ rfl f72 hown (hw _ (List.mem_of_getElem? (i := 18) rfl)) (hw _ (List.mem_of_getElem? (i := 19) rfl)) (hw _ (List.mem_of_getElem? (i := 21) rfl)) (hw _ (List.mem_of_getElem? (i := 20) rfl)) (hw _ (List.mem_of_getElem? (i := 2) rfl)) (hw _ (List.mem_of_getElem? (i := 22) rfl)) (by decide) (own_m4 l Z a0 hw [] a1 (own_f1_last x0 x0) (own_f1_first x0 x0) T71.heap f74 f73 ) (by decide) (W := 0) (by decide) (by decide) (by decide) (g := (mkF m 46 #[.val (.int x0), .val (.int x1), .val (.int x2), .val (.ref a1), .val (.ref a12), .val (.ref a30), .val (.ref a55), .unset, .unset] [(.ref a1)])) rfl (by rw [hml]; rfl) (argsL := []) (rest := []) (lenOf pd_4 rfl) rfl (by show 2 * 0 + _ ≤ _; exact Nat.le_of_eq rfl) (hb hby at_46)
    obtain ⟨e87, X87⟩ := own_clean q87 Y87 rfl rfl
    obtain ⟨rfl, -, -⟩ := q87
    refine own_Goes.step st87 ?_
    show own_Goes p e below s (own_F0 Z x0 x1 x2 n0 h0) room_1.cells room_1.slots (T87.setTop (mkF m 49 #[.val (.int x0), .val (.int x1), .val (.int x2), .val (.ref a1), .val (.ref a12), .val (.ref a30), .val (.ref a55), .unset, .unset] [(.int (own_f4 (own_f1_last x0 x0) (own_f1_first x0 x0)))]))
    refine own_Goes.step (fun t k => XT.iconstV X87.here hx rfl (1 : Int32) (hb hby at_49) (by decide) k) ?_
    show own_Goes p e below s (own_F0 Z x0 x1 x2 n0 h0) room_1.cells room_1.slots (T87.setTop (mkF m 50 #[.val (.int x0), .val (.int x1), .val (.int x2), .val (.ref a1), .val (.ref a12), .val (.ref a30), .val (.ref a55), .unset, .unset] [(.int (1 : Int32)), (.int (own_f4 (own_f1_last x0 x0) (own_f1_first x0 x0)))]))
    have J96 : own_Goes p e below s (own_F0 Z x0 x1 x2 n0 h0) room_1.cells room_1.slots (T87.setTop (mkF m 58 #[.val (.int x0), .val (.int x1), .val (.int x2), .val (.ref a1), .val (.ref a12), .val (.ref a30), .val (.ref a55), .unset, .unset] [(.int (own_f0_1 x0 x1 x2))])) := by
      refine own_Goes.step (fun t k => XS.istore X87.here hx rfl (hb hby at_58) rfl (l' := #[.val (.int x0), .val (.int x1), .val (.int x2), .val (.ref a1), .val (.ref a12), .val (.ref a30), .val (.ref a55), .val (.int (own_f0_1 x0 x1 x2)), .unset]) rfl k) ?_
      show own_Goes p e below s (own_F0 Z x0 x1 x2 n0 h0) room_1.cells room_1.slots (T87.setTop (mkF m 60 #[.val (.int x0), .val (.int x1), .val (.int x2), .val (.ref a1), .val (.ref a12), .val (.ref a30), .val (.ref a55), .val (.int (own_f0_1 x0 x1 x2)), .unset] []))
      refine own_Goes.step (fun t k => XS.aload X87.here hx rfl (hb hby at_60) rfl rfl k) ?_
      show own_Goes p e below s (own_F0 Z x0 x1 x2 n0 h0) room_1.cells room_1.slots (T87.setTop (mkF m 62 #[.val (.int x0), .val (.int x1), .val (.int x2), .val (.ref a1), .val (.ref a12), .val (.ref a30), .val (.ref a55), .val (.int (own_f0_1 x0 x1 x2)), .unset] [(.ref a12)]))
      obtain ⟨w89, T89, L89, q89, Y89, st89⟩ := own_virt X87 hx hZ e87 f75 hown (hw _ (List.mem_of_getElem? (i := 18) rfl)) (hw _ (List.mem_of_getElem? (i := 19) rfl)) (hw _ (List.mem_of_getElem? (i := 21) rfl)) (hw _ (List.mem_of_getElem? (i := 20) rfl)) (hw _ (List.mem_of_getElem? (i := 2) rfl)) (hw _ (List.mem_of_getElem? (i := 22) rfl)) (by decide) (own_m4 l Z a0 hw [] a12 (own_f1_last x0 x1) (own_f1_first x0 x1) T71.heap f77 f76 ) (by decide) (W := 0) (by decide) (by decide) (by decide) (g := (mkF m 62 #[.val (.int x0), .val (.int x1), .val (.int x2), .val (.ref a1), .val (.ref a12), .val (.ref a30), .val (.ref a55), .val (.int (own_f0_1 x0 x1 x2)), .unset] [(.ref a12)])) rfl (by rw [hml]; rfl) (argsL := []) (rest := []) (lenOf pd_4 rfl) rfl (by show 2 * 0 + _ ≤ _; exact Nat.le_of_eq rfl) (hb hby at_62)
      obtain ⟨e89, X89⟩ := own_clean q89 Y89 rfl rfl
      obtain ⟨rfl, -, -⟩ := q89
      refine own_Goes.step st89 ?_
      show own_Goes p e below s (own_F0 Z x0 x1 x2 n0 h0) room_1.cells room_1.slots (T89.setTop (mkF m 65 #[.val (.int x0), .val (.int x1), .val (.int x2), .val (.ref a1), .val (.ref a12), .val (.ref a30), .val (.ref a55), .val (.int (own_f0_1 x0 x1 x2)), .unset] [(.int (own_f4 (own_f1_last x0 x1) (own_f1_first x0 x1)))]))
      refine own_Goes.step (fun t k => XS.aload X89.here hx rfl (hb hby at_65) rfl rfl k) ?_
      show own_Goes p e below s (own_F0 Z x0 x1 x2 n0 h0) room_1.cells room_1.slots (T89.setTop (mkF m 67 #[.val (.int x0), .val (.int x1), .val (.int x2), .val (.ref a1), .val (.ref a12), .val (.ref a30), .val (.ref a55), .val (.int (own_f0_1 x0 x1 x2)), .unset] [(.ref a30), (.int (own_f4 (own_f1_last x0 x1) (own_f1_first x0 x1)))]))
      obtain ⟨w90, T90, L90, q90, Y90, st90⟩ := own_virt X89 hx hZ e89 f78 hown (hw _ (List.mem_of_getElem? (i := 18) rfl)) (hw _ (List.mem_of_getElem? (i := 19) rfl)) (hw _ (List.mem_of_getElem? (i := 21) rfl)) (hw _ (List.mem_of_getElem? (i := 20) rfl)) (hw _ (List.mem_of_getElem? (i := 2) rfl)) (hw _ (List.mem_of_getElem? (i := 22) rfl)) (by decide) (own_m4 l Z a0 hw [] a30 (own_f1_last (x1 + (1 : Int32)) x2) (own_f1_first (x1 + (1 : Int32)) x2) T71.heap f80 f79 ) (by decide) (W := 1) (by decide) (by decide) (by decide) (g := (mkF m 67 #[.val (.int x0), .val (.int x1), .val (.int x2), .val (.ref a1), .val (.ref a12), .val (.ref a30), .val (.ref a55), .val (.int (own_f0_1 x0 x1 x2)), .unset] [(.ref a30), (.int (own_f4 (own_f1_last x0 x1) (own_f1_first x0 x1)))])) rfl (by rw [hml]; rfl) (argsL := []) (rest := [(.int (own_f4 (own_f1_last x0 x1) (own_f1_first x0 x1)))]) (lenOf pd_4 rfl) rfl (by show 2 * 0 + _ ≤ _; exact Nat.le_of_eq rfl) (hb hby at_67)
      obtain ⟨e90, X90⟩ := own_clean q90 Y90 rfl rfl
      obtain ⟨rfl, -, -⟩ := q90
      refine own_Goes.step st90 ?_
      show own_Goes p e below s (own_F0 Z x0 x1 x2 n0 h0) room_1.cells room_1.slots (T90.setTop (mkF m 70 #[.val (.int x0), .val (.int x1), .val (.int x2), .val (.ref a1), .val (.ref a12), .val (.ref a30), .val (.ref a55), .val (.int (own_f0_1 x0 x1 x2)), .unset] [(.int (own_f4 (own_f1_last (x1 + (1 : Int32)) x2) (own_f1_first (x1 + (1 : Int32)) x2))), (.int (own_f4 (own_f1_last x0 x1) (own_f1_first x0 x1)))]))
      refine own_Goes.step (fun t k => XS.iadd X90.here hx rfl (hb hby at_70) rfl k) ?_
      show own_Goes p e below s (own_F0 Z x0 x1 x2 n0 h0) room_1.cells room_1.slots (T90.setTop (mkF m 71 #[.val (.int x0), .val (.int x1), .val (.int x2), .val (.ref a1), .val (.ref a12), .val (.ref a30), .val (.ref a55), .val (.int (own_f0_1 x0 x1 x2)), .unset] [(.int ((own_f4 (own_f1_last x0 x1) (own_f1_first x0 x1)) + (own_f4 (own_f1_last (x1 + (1 : Int32)) x2) (own_f1_first (x1 + (1 : Int32)) x2))))]))
      refine own_Goes.step (fun t k => XS.aload X90.here hx rfl (hb hby at_71) rfl rfl k) ?_
      show own_Goes p e below s (own_F0 Z x0 x1 x2 n0 h0) room_1.cells room_1.slots (T90.setTop (mkF m 73 #[.val (.int x0), .val (.int x1), .val (.int x2), .val (.ref a1), .val (.ref a12), .val (.ref a30), .val (.ref a55), .val (.int (own_f0_1 x0 x1 x2)), .unset] [(.ref a55), (.int ((own_f4 (own_f1_last x0 x1) (own_f1_first x0 x1)) + (own_f4 (own_f1_last (x1 + (1 : Int32)) x2) (own_f1_first (x1 + (1 : Int32)) x2))))]))
      obtain ⟨w91, T91, L91, q91, Y91, st91⟩ := own_virt X90 hx hZ e90 E71 hown (hw _ (List.mem_of_getElem? (i := 18) rfl)) (hw _ (List.mem_of_getElem? (i := 19) rfl)) (hw _ (List.mem_of_getElem? (i := 21) rfl)) (hw _ (List.mem_of_getElem? (i := 20) rfl)) (hw _ (List.mem_of_getElem? (i := 2) rfl)) (hw _ (List.mem_of_getElem? (i := 22) rfl)) (by decide) (own_m4 l Z a0 hw [] a55 (own_f1_last x0 x2) (own_f1_first x0 x2) T71.heap c71_1 c71_0 ) (by decide) (W := 1) (by decide) (by decide) (by decide) (g := (mkF m 73 #[.val (.int x0), .val (.int x1), .val (.int x2), .val (.ref a1), .val (.ref a12), .val (.ref a30), .val (.ref a55), .val (.int (own_f0_1 x0 x1 x2)), .unset] [(.ref a55), (.int ((own_f4 (own_f1_last x0 x1) (own_f1_first x0 x1)) + (own_f4 (own_f1_last (x1 + (1 : Int32)) x2) (own_f1_first (x1 + (1 : Int32)) x2))))])) rfl (by rw [hml]; rfl) (argsL := []) (rest := [(.int ((own_f4 (own_f1_last x0 x1) (own_f1_first x0 x1)) + (own_f4 (own_f1_last (x1 + (1 : Int32)) x2) (own_f1_first (x1 + (1 : Int32)) x2))))]) (lenOf pd_4 rfl) rfl (by show 2 * 0 + _ ≤ _; exact Nat.le_of_eq rfl) (hb hby at_73)
      obtain ⟨e91, X91⟩ := own_clean q91 Y91 rfl rfl
      obtain ⟨rfl, -, -⟩ := q91
      refine own_Goes.step st91 ?_
      show own_Goes p e below s (own_F0 Z x0 x1 x2 n0 h0) room_1.cells room_1.slots (T91.setTop (mkF m 76 #[.val (.int x0), .val (.int x1), .val (.int x2), .val (.ref a1), .val (.ref a12), .val (.ref a30), .val (.ref a55), .val (.int (own_f0_1 x0 x1 x2)), .unset] [(.int (own_f4 (own_f1_last x0 x2) (own_f1_first x0 x2))), (.int ((own_f4 (own_f1_last x0 x1) (own_f1_first x0 x1)) + (own_f4 (own_f1_last (x1 + (1 : Int32)) x2) (own_f1_first (x1 + (1 : Int32)) x2))))]))
      have J95 : own_Goes p e below s (own_F0 Z x0 x1 x2 n0 h0) room_1.cells room_1.slots (T91.setTop (mkF m 84 #[.val (.int x0), .val (.int x1), .val (.int x2), .val (.ref a1), .val (.ref a12), .val (.ref a30), .val (.ref a55), .val (.int (own_f0_1 x0 x1 x2)), .unset] [(.int (own_f0_2 x0 x1 x2))])) := by
        refine own_Goes.step (fun t k => XS.istore X91.here hx rfl (hb hby at_84) rfl (l' := #[.val (.int x0), .val (.int x1), .val (.int x2), .val (.ref a1), .val (.ref a12), .val (.ref a30), .val (.ref a55), .val (.int (own_f0_1 x0 x1 x2)), .val (.int (own_f0_2 x0 x1 x2))]) rfl k) ?_
        show own_Goes p e below s (own_F0 Z x0 x1 x2 n0 h0) room_1.cells room_1.slots (T91.setTop (mkF m 86 #[.val (.int x0), .val (.int x1), .val (.int x2), .val (.ref a1), .val (.ref a12), .val (.ref a30), .val (.ref a55), .val (.int (own_f0_1 x0 x1 x2)), .val (.int (own_f0_2 x0 x1 x2))] []))
        refine own_Goes.step (fun t k => XS.iload X91.here hx rfl (hb hby at_86) rfl k) ?_
        show own_Goes p e below s (own_F0 Z x0 x1 x2 n0 h0) room_1.cells room_1.slots (T91.setTop (mkF m 88 #[.val (.int x0), .val (.int x1), .val (.int x2), .val (.ref a1), .val (.ref a12), .val (.ref a30), .val (.ref a55), .val (.int (own_f0_1 x0 x1 x2)), .val (.int (own_f0_2 x0 x1 x2))] [(.int (own_f0_1 x0 x1 x2))]))
        by_cases hc93 : (own_f0_1 x0 x1 x2) = (0 : Int32)
        · refine own_Goes.step (fun t k => XS.ifYes X91.here hx rfl (pc0 := 88) (pc' := 100) rfl (hb hby at_88) rfl (XT.i0_eq_t hc93) (by decide) (by decide) k) ?_
          show own_Goes p e below s (own_F0 Z x0 x1 x2 n0 h0) room_1.cells room_1.slots (T91.setTop (mkF m 100 #[.val (.int x0), .val (.int x1), .val (.int x2), .val (.ref a1), .val (.ref a12), .val (.ref a30), .val (.ref a55), .val (.int (own_f0_1 x0 x1 x2)), .val (.int (own_f0_2 x0 x1 x2))] []))
          refine own_Goes.step (fun t k => XT.iconstV X91.here hx rfl (0 : Int32) (hb hby at_100) (by decide) k) ?_
          show own_Goes p e below s (own_F0 Z x0 x1 x2 n0 h0) room_1.cells room_1.slots (T91.setTop (mkF m 101 #[.val (.int x0), .val (.int x1), .val (.int x2), .val (.ref a1), .val (.ref a12), .val (.ref a30), .val (.ref a55), .val (.int (own_f0_1 x0 x1 x2)), .val (.int (own_f0_2 x0 x1 x2))] [(.int (0 : Int32))]))
          exact own_endN X91 hx Bd.notSynchronized (t := .boolean) Bd.returns (by simp) (hb hby at_101) ⟨(congrArg (fun z => some (Value.int z)) (show (0 : Int32) = own_f0 x0 x1 x2 from by simp only [own_f0, if_pos hc93])), N84⟩ (by decide) (by decide)
        · refine own_Goes.step (fun t k => XS.ifNo X91.here hx rfl (hb hby at_88) rfl (XT.i0_eq_f hc93) k) ?_
          show own_Goes p e below s (own_F0 Z x0 x1 x2 n0 h0) room_1.cells room_1.slots (T91.setTop (mkF m 91 #[.val (.int x0), .val (.int x1), .val (.int x2), .val (.ref a1), .val (.ref a12), .val (.ref a30), .val (.ref a55), .val (.int (own_f0_1 x0 x1 x2)), .val (.int (own_f0_2 x0 x1 x2))] []))
          refine own_Goes.step (fun t k => XS.iload X91.here hx rfl (hb hby at_91) rfl k) ?_
          show own_Goes p e below s (own_F0 Z x0 x1 x2 n0 h0) room_1.cells room_1.slots (T91.setTop (mkF m 93 #[.val (.int x0), .val (.int x1), .val (.int x2), .val (.ref a1), .val (.ref a12), .val (.ref a30), .val (.ref a55), .val (.int (own_f0_1 x0 x1 x2)), .val (.int (own_f0_2 x0 x1 x2))] [(.int (own_f0_2 x0 x1 x2))]))
          by_cases hc94 : (own_f0_2 x0 x1 x2) = (0 : Int32)
          · refine own_Goes.step (fun t k => XS.ifYes X91.here hx rfl (pc0 := 93) (pc' := 100) rfl (hb hby at_93) rfl (XT.i0_eq_t hc94) (by decide) (by decide) k) ?_
            show own_Goes p e below s (own_F0 Z x0 x1 x2 n0 h0) room_1.cells room_1.slots (T91.setTop (mkF m 100 #[.val (.int x0), .val (.int x1), .val (.int x2), .val (.ref a1), .val (.ref a12), .val (.ref a30), .val (.ref a55), .val (.int (own_f0_1 x0 x1 x2)), .val (.int (own_f0_2 x0 x1 x2))] []))
            refine own_Goes.step (fun t k => XT.iconstV X91.here hx rfl (0 : Int32) (hb hby at_100) (by decide) k) ?_
            show own_Goes p e below s (own_F0 Z x0 x1 x2 n0 h0) room_1.cells room_1.slots (T91.setTop (mkF m 101 #[.val (.int x0), .val (.int x1), .val (.int x2), .val (.ref a1), .val (.ref a12), .val (.ref a30), .val (.ref a55), .val (.int (own_f0_1 x0 x1 x2)), .val (.int (own_f0_2 x0 x1 x2))] [(.int (0 : Int32))]))
            exact own_endN X91 hx Bd.notSynchronized (t := .boolean) Bd.returns (by simp) (hb hby at_101) ⟨(congrArg (fun z => some (Value.int z)) (show (0 : Int32) = own_f0 x0 x1 x2 from by simp only [own_f0, if_neg hc93, if_pos hc94])), N84⟩ (by decide) (by decide)
          · refine own_Goes.step (fun t k => XS.ifNo X91.here hx rfl (hb hby at_93) rfl (XT.i0_eq_f hc94) k) ?_
            show own_Goes p e below s (own_F0 Z x0 x1 x2 n0 h0) room_1.cells room_1.slots (T91.setTop (mkF m 96 #[.val (.int x0), .val (.int x1), .val (.int x2), .val (.ref a1), .val (.ref a12), .val (.ref a30), .val (.ref a55), .val (.int (own_f0_1 x0 x1 x2)), .val (.int (own_f0_2 x0 x1 x2))] []))
            refine own_Goes.step (fun t k => XT.iconstV X91.here hx rfl (1 : Int32) (hb hby at_96) (by decide) k) ?_
            show own_Goes p e below s (own_F0 Z x0 x1 x2 n0 h0) room_1.cells room_1.slots (T91.setTop (mkF m 97 #[.val (.int x0), .val (.int x1), .val (.int x2), .val (.ref a1), .val (.ref a12), .val (.ref a30), .val (.ref a55), .val (.int (own_f0_1 x0 x1 x2)), .val (.int (own_f0_2 x0 x1 x2))] [(.int (1 : Int32))]))
            refine own_Goes.step (fun t k => XS.goto X91.here hx rfl (pc0 := 97) (pc' := 101) rfl (hb hby at_97) (by decide) (by decide) k) ?_
            show own_Goes p e below s (own_F0 Z x0 x1 x2 n0 h0) room_1.cells room_1.slots (T91.setTop (mkF m 101 #[.val (.int x0), .val (.int x1), .val (.int x2), .val (.ref a1), .val (.ref a12), .val (.ref a30), .val (.ref a55), .val (.int (own_f0_1 x0 x1 x2)), .val (.int (own_f0_2 x0 x1 x2))] [(.int (1 : Int32))]))
            exact own_endN X91 hx Bd.notSynchronized (t := .boolean) Bd.returns (by simp) (hb hby at_101) ⟨(congrArg (fun z => some (Value.int z)) (show (1 : Int32) = own_f0 x0 x1 x2 from by simp only [own_f0, if_neg hc93, if_neg hc94])), N84⟩ (by decide) (by decide)
      by_cases hc92 : ((own_f4 (own_f1_last x0 x1) (own_f1_first x0 x1)) + (own_f4 (own_f1_last (x1 + (1 : Int32)) x2) (own_f1_first (x1 + (1 : Int32)) x2))) = (own_f4 (own_f1_last x0 x2) (own_f1_first x0 x2))
      · refine own_Goes.step (fun t k => XS.icmpNo X91.here hx rfl (hb hby at_76) rfl (XT.ii_ne_f hc92) k) ?_
        show own_Goes p e below s (own_F0 Z x0 x1 x2 n0 h0) room_1.cells room_1.slots (T91.setTop (mkF m 79 #[.val (.int x0), .val (.int x1), .val (.int x2), .val (.ref a1), .val (.ref a12), .val (.ref a30), .val (.ref a55), .val (.int (own_f0_1 x0 x1 x2)), .unset] []))
        refine own_Goes.step (fun t k => XT.iconstV X91.here hx rfl (1 : Int32) (hb hby at_79) (by decide) k) ?_
        show own_Goes p e below s (own_F0 Z x0 x1 x2 n0 h0) room_1.cells room_1.slots (T91.setTop (mkF m 80 #[.val (.int x0), .val (.int x1), .val (.int x2), .val (.ref a1), .val (.ref a12), .val (.ref a30), .val (.ref a55), .val (.int (own_f0_1 x0 x1 x2)), .unset] [(.int (1 : Int32))]))
        refine own_Goes.step (fun t k => XS.goto X91.here hx rfl (pc0 := 80) (pc' := 84) rfl (hb hby at_80) (by decide) (by decide) k) ?_
        show own_Goes p e below s (own_F0 Z x0 x1 x2 n0 h0) room_1.cells room_1.slots (T91.setTop (mkF m 84 #[.val (.int x0), .val (.int x1), .val (.int x2), .val (.ref a1), .val (.ref a12), .val (.ref a30), .val (.ref a55), .val (.int (own_f0_1 x0 x1 x2)), .unset] [(.int (1 : Int32))]))
        rw [show (own_f0_2 x0 x1 x2) = (1 : Int32) from by simp only [own_f0_2, if_pos hc92]] at J95
        exact J95
      · refine own_Goes.step (fun t k => XS.icmpYes X91.here hx rfl (pc0 := 76) (pc' := 83) rfl (hb hby at_76) rfl (XT.ii_ne_t hc92) (by decide) (by decide) k) ?_
        show own_Goes p e below s (own_F0 Z x0 x1 x2 n0 h0) room_1.cells room_1.slots (T91.setTop (mkF m 83 #[.val (.int x0), .val (.int x1), .val (.int x2), .val (.ref a1), .val (.ref a12), .val (.ref a30), .val (.ref a55), .val (.int (own_f0_1 x0 x1 x2)), .unset] []))
        refine own_Goes.step (fun t k => XT.iconstV X91.here hx rfl (0 : Int32) (hb hby at_83) (by decide) k) ?_
        show own_Goes p e below s (own_F0 Z x0 x1 x2 n0 h0) room_1.cells room_1.slots (T91.setTop (mkF m 84 #[.val (.int x0), .val (.int x1), .val (.int x2), .val (.ref a1), .val (.ref a12), .val (.ref a30), .val (.ref a55), .val (.int (own_f0_1 x0 x1 x2)), .unset] [(.int (0 : Int32))]))
        rw [show (own_f0_2 x0 x1 x2) = (0 : Int32) from by simp only [own_f0_2, if_neg hc92]] at J95
        exact J95
    by_cases hc88 : (own_f4 (own_f1_last x0 x0) (own_f1_first x0 x0)) = (1 : Int32)
    · refine own_Goes.step (fun t k => XS.icmpNo X87.here hx rfl (hb hby at_50) rfl (XT.ii_ne_f hc88) k) ?_
      show own_Goes p e below s (own_F0 Z x0 x1 x2 n0 h0) room_1.cells room_1.slots (T87.setTop (mkF m 53 #[.val (.int x0), .val (.int x1), .val (.int x2), .val (.ref a1), .val (.ref a12), .val (.ref a30), .val (.ref a55), .unset, .unset] []))
      refine own_Goes.step (fun t k => XT.iconstV X87.here hx rfl (1 : Int32) (hb hby at_53) (by decide) k) ?_
      show own_Goes p e below s (own_F0 Z x0 x1 x2 n0 h0) room_1.cells room_1.slots (T87.setTop (mkF m 54 #[.val (.int x0), .val (.int x1), .val (.int x2), .val (.ref a1), .val (.ref a12), .val (.ref a30), .val (.ref a55), .unset, .unset] [(.int (1 : Int32))]))
      refine own_Goes.step (fun t k => XS.goto X87.here hx rfl (pc0 := 54) (pc' := 58) rfl (hb hby at_54) (by decide) (by decide) k) ?_
      show own_Goes p e below s (own_F0 Z x0 x1 x2 n0 h0) room_1.cells room_1.slots (T87.setTop (mkF m 58 #[.val (.int x0), .val (.int x1), .val (.int x2), .val (.ref a1), .val (.ref a12), .val (.ref a30), .val (.ref a55), .unset, .unset] [(.int (1 : Int32))]))
      rw [show (own_f0_1 x0 x1 x2) = (1 : Int32) from by simp only [own_f0_1, if_pos hc88]] at J96
      exact J96
    · refine own_Goes.step (fun t k => XS.icmpYes X87.here hx rfl (pc0 := 50) (pc' := 57) rfl (hb hby at_50) rfl (XT.ii_ne_t hc88) (by decide) (by decide) k) ?_
      show own_Goes p e below s (own_F0 Z x0 x1 x2 n0 h0) room_1.cells room_1.slots (T87.setTop (mkF m 57 #[.val (.int x0), .val (.int x1), .val (.int x2), .val (.ref a1), .val (.ref a12), .val (.ref a30), .val (.ref a55), .unset, .unset] []))
      refine own_Goes.step (fun t k => XT.iconstV X87.here hx rfl (0 : Int32) (hb hby at_57) (by decide) k) ?_
      show own_Goes p e below s (own_F0 Z x0 x1 x2 n0 h0) room_1.cells room_1.slots (T87.setTop (mkF m 58 #[.val (.int x0), .val (.int x1), .val (.int x2), .val (.ref a1), .val (.ref a12), .val (.ref a30), .val (.ref a55), .unset, .unset] [(.int (0 : Int32))]))
      rw [show (own_f0_1 x0 x1 x2) = (0 : Int32) from by simp only [own_f0_1, if_neg hc88]] at J96
      exact J96
  obtain ⟨t2, o2, q1, q2, q3, q4⟩ := hgo
  exact ⟨t2, o2, castTop (ef_0 m x0 x1 x2) q1, q2, q3, q4⟩
theorem own_len (a m : Int32) (l : Int32) : own_f4 l a + own_f4 m (l + 1) = own_f4 m a := by
  unfold own_f4
  rw [← Int32.toBitVec_inj]
  simp only [Int32.toBitVec_add, Int32.toBitVec_sub]
  generalize l.toBitVec = L
  generalize a.toBitVec = A
  generalize m.toBitVec = M
  generalize Int32.toBitVec 1 = O
  apply BitVec.eq_of_toInt_eq
  simp only [BitVec.toInt_add, BitVec.toInt_sub, Int.bmod_add_bmod, Int.add_bmod_bmod, Int.bmod_sub_bmod, Int.sub_bmod_bmod]
  congr 1
  omega
theorem own_one (a : Int32) : own_f4 a a = 1 := by
  unfold own_f4
  rw [Int32.sub_self, Int32.zero_add]
theorem own_law (x0 x1 x2 : Int32) : own_f0 x0 x1 x2 = 1 := by
  have n1 : ¬ (1 : Int32) = 0 := by decide
  have e1 : own_f0_1 x0 x1 x2 = 1 := by
    unfold own_f0_1 own_f1_last own_f1_first
    rw [if_pos (own_one x0)]
  have e2 : own_f0_2 x0 x1 x2 = 1 := by
    unfold own_f0_2 own_f1_last own_f1_first
    rw [if_pos (own_len x0 x2 x1)]
  rw [own_f0, e1, e2, if_neg n1, if_neg n1]
set_option maxRecDepth 65536 in
set_option maxHeartbeats 40000000 in
theorem comes_1 {Post : Tables → Env → Array Value → State → Outcome → State → Prop} (hpost : ∀ tb e args s v u, (limb_1_1.after args s (.returned v) u = true ∧ limb_1_2.after args s (.returned v) u = true ∧ True) → FrameEnd s (.returned v) u (Jvm.fieldLocs frame_1_writes args s ++ Jvm.arrayLocs frame_1_arrays args s ++ Jvm.staticLocs frame_1_statics s) 16 128 → Post tb e args s (.returned v) u) :
    ArmFor flags0 classFile x code maxLocals ret World_1 tables_1 room_1 Calls_1 rest_1 Pre_1 Post := by
  intro l hfl _ _ p e ha hc hk s m args below hf hA hF happ hP
  obtain ⟨hcalls, hrest, hpre⟩ := hP
  obtain ⟨-, -, -, hnamed, -, -, -, hat⟩ := (Spec.applies_iff hf).mp happ
  obtain ⟨hg, hn⟩ := and_e (Cond.before_iff.mp (show (Jvm.Cond.and given_1 narrow_1).before args s = true from hpre))
  obtain ⟨hcount, hr0⟩ := and_e hg
  obtain ⟨w0, w1, w2, rfl⟩ : ∃ w0 w1 w2 : Value, args = #[w0, w1, w2] := by
    have hs : args.size = 3 := by simpa [Cond.value, given_1] using hcount
    obtain ⟨L⟩ := args
    match L, hs with
    | [w0, w1, w2], _ => exact ⟨w0, w1, w2, rfl⟩
  have hw := fun d (hd : d ∈ tables_1) => atoms_spec (ws := Jvm.Cond.code x code maxLocals ret :: tables_1) hat d (List.mem_cons_of_mem _ hd)
  obtain ⟨ha0, hr1⟩ := and_e hr0
  obtain ⟨i0, ev0⟩ := is_v ha0
  obtain rfl : w0 = (.int i0) := Option.some.inj ev0
  obtain ⟨ha1, hr2⟩ := and_e hr1
  obtain ⟨i1, ev1⟩ := is_v ha1
  obtain rfl : w1 = (.int i1) := Option.some.inj ev1
  obtain ⟨i2, ev2⟩ := is_v hr2
  obtain rfl : w2 = (.int i2) := Option.some.inj ev2
  obtain ⟨n, o, h1, h2, h3, _, L, rfl, ⟨rfl, N⟩, hq⟩ := own_m0 l s _ hw tables_1 i0 i1 i2 s.heap.size s.heap (Nat.le_refl _) p e ha hc hk s m _ below hf ((Spec.applies_iff_loose hf).mp happ).1 ⟨rfl, State.Warmed39.refl s, rfl⟩ trivial
  rw [own_law i0 i1 i2] at h3 hq
  refine ⟨n, _, h1, h2, h3, hpost _ _ _ _ _ _ ⟨Cond.after_iff.mpr rfl, Cond.after_iff.mpr (eq_i res_at (Term.int_eval (1)) rfl), trivial⟩ ⟨hq.1, hq.2.1, (hq.2.2.sift fun y hy => Or.inr (N y hy)).mono (by decide) (by decide)⟩⟩
theorem main_1_1 : Claimed_1_1 := comes_1 fun _ _ _ _ _ _ h hF => ⟨h.1, hF⟩
theorem main_1_2 : Claimed_1_2 := comes_1 fun _ _ _ _ _ _ h hF => ⟨h.2.1, hF⟩
end Jvm.Pilot.@@N@@
namespace Jvm.Pilot.@@N@@
open Jvm Jvm.ClassFile Sem Op Lib Jvm.Free Jvm.Stand Jvm.Pilot.@@N@@.Jvm.D
/-! MADE BY PROGRAM (witnessworld.py) out of the Statement's table words and the real class files: 10 classes; the members and pool entries that the words name. The judged class is class 1, her method 1. -/
namespace start1
open Jvm.ClassFile
def u (s : String) : CpInfo := .utf8 (stringToUtf16 s)
/-- a pool by its gaps: so many unusable entries, then the entry; so many at the end -/
def gap : Nat → List CpInfo → List CpInfo
  | 0, r => r
  | n + 1, r => .unusable :: gap n r
def poolList (es : List (Nat × CpInfo)) (last : Nat) : List CpInfo := es.foldr (fun e r => gap e.1 (e.2 :: r)) (gap last [])
def pool (es : List (Nat × CpInfo)) (last : Nat) : Array CpInfo := ⟨poolList es last⟩
def fileOf (pool : Array CpInfo) (this : Nat) (attrs : Array Attribute := #[]) (ms : Array MethodInfo := #[]) (fl : Nat := 33) (sup : Nat := 0) (ifs : Array Nat := #[]) (fds : Array FieldInfo := #[]) : ClassFile where
  minorVersion := 0
  majorVersion := 65
  constantPool := pool
  accessFlags := fl
  thisClass := this
  superClass := sup
  interfaces := ifs
  fields := fds
  methods := ms
  attributes := attrs
def plain (name : String) (sup : Option ClassId) : Class where
  name := name
  kind := .ordinary
  loader := none
  accessFlags := 33
  super := sup
  interfaces := #[]
  cf := none
  fields := #[]
  methods := #[]
  instanceTypes := #[]
  staticTypes := #[]
  resolved := #[]
  callSites := []
  init := .initialized
  statics := none
  mirror := none

def pool0 : Array CpInfo := pool [(5, u "<init>"), (0, u "()V"), (1, .class_ 10), (1, u "java/lang/Object")] 113

def k0c0 : Code := { maxStack := 0, maxLocals := 1, code := object_method_1_code, exceptionTable := #[], attributes := #[] }
def k0m0 : Method := { name := "<init>", desc := "()V", sig := { parameters := [], returnType := none }, accessFlags := 1, code := some k0c0 }
/-- java/lang/Object -/
def k0 : Class := { plain "java/lang/Object" none with
  accessFlags := 33
  interfaces := #[]
  cf := some (fileOf pool0 8 #[] #[{ accessFlags := 1, nameIndex := 5, descriptorIndex := 6, attributes := #[] }] 33 0 #[] #[])
  fields := #[]
  methods := #[k0m0]
  instanceTypes := #[]
  staticTypes := #[]
  resolved := Array.replicate 124 none
  statics := none }

def pool1 : Array CpInfo := pool [(2, .class_ 4), (1, u "java/lang/Object"), (0, u "<init>"), (0, u "()V"), (0, .class_ 8), (0, u "com/example/shiftweave/shiftweave/WorkedDays$Run"), (0, .methodref 7 10), (0, .nameAndType 5 11), (0, u "(II)V"), (0, .methodref 7 13), (0, .nameAndType 14 15), (0, u "length"), (0, u "()I"), (0, .class_ 17), (0, u "com/example/shiftweave/shiftweave/RunLengthPinLaw"), (2, u "law"), (0, u "(III)Z")] 7

def k1m0 : Method := { name := "<init>", desc := "()V", sig := { parameters := [], returnType := none }, accessFlags := 2, code := none }
def k1c1 : Code := { maxStack := 4, maxLocals := 9, code := code, exceptionTable := #[], attributes := #[] }
def k1m1 : Method := { name := "law", desc := "(III)Z", sig := { parameters := [.int, .int, .int], returnType := some .boolean }, accessFlags := 9, code := some k1c1 }
/-- com/example/shiftweave/shiftweave/RunLengthPinLaw -/
def k1 : Class := { plain "com/example/shiftweave/shiftweave/RunLengthPinLaw" (some 0) with
  accessFlags := 49
  interfaces := #[]
  cf := some (fileOf pool1 16 #[] #[{ accessFlags := 2, nameIndex := 5, descriptorIndex := 6, attributes := #[] }, { accessFlags := 9, nameIndex := 20, descriptorIndex := 21, attributes := #[] }] 49 2 #[] #[])
  fields := #[]
  methods := #[k1m0, k1m1]
  instanceTypes := #[]
  staticTypes := #[]
  resolved := Array.replicate 29 none
  statics := none }

def pool2 : Array CpInfo := pool [(1, .methodref 2 3), (0, .class_ 4), (0, .nameAndType 5 6), (0, u "java/lang/Object"), (0, u "<init>"), (0, u "()V"), (0, .class_ 8), (0, u "java/lang/Record")] 13

def k2c0 : Code := { maxStack := 1, maxLocals := 1, code := jdk_30_method_1_code, exceptionTable := #[], attributes := #[] }
def k2m0 : Method := { name := "<init>", desc := "()V", sig := { parameters := [], returnType := none }, accessFlags := 4, code := some k2c0 }
/-- java/lang/Record -/
def k2 : Class := { plain "java/lang/Record" (some 0) with
  accessFlags := 1057
  interfaces := #[]
  cf := some (fileOf pool2 7 #[] #[{ accessFlags := 4, nameIndex := 5, descriptorIndex := 6, attributes := #[] }] 1057 2 #[] #[])
  fields := #[]
  methods := #[k2m0]
  instanceTypes := #[]
  staticTypes := #[]
  resolved := Array.replicate 22 none
  statics := none }

def pool3 : Array CpInfo := pool [(1, .methodref 2 3), (0, .class_ 4), (0, .nameAndType 5 6), (0, u "java/lang/Record"), (0, u "<init>"), (0, u "()V"), (0, .fieldref 8 9), (0, .class_ 10), (0, .nameAndType 11 12), (0, u "com/example/shiftweave/shiftweave/WorkedDays$Run"), (0, u "first"), (0, u "I"), (0, .fieldref 8 14), (0, .nameAndType 15 12), (0, u "last"), (12, u "(II)V"), (3, u "length"), (0, u "()I"), (5, .class_ 40), (0, u "com/example/shiftweave/shiftweave/WorkedDays")] 20

def k3c0 : Code := { maxStack := 2, maxLocals := 3, code := prog_61_method_1_code, exceptionTable := #[], attributes := #[] }
def k3m0 : Method := { name := "<init>", desc := "(II)V", sig := { parameters := [.int, .int], returnType := none }, accessFlags := 0, code := some k3c0 }
def k3c1 : Code := { maxStack := 2, maxLocals := 1, code := prog_61_method_2_code, exceptionTable := #[], attributes := #[] }
def k3m1 : Method := { name := "length", desc := "()I", sig := { parameters := [], returnType := some .int }, accessFlags := 0, code := some k3c1 }
/-- com/example/shiftweave/shiftweave/WorkedDays$Run -/
def k3 : Class := { plain "com/example/shiftweave/shiftweave/WorkedDays$Run" (some 2) with
  accessFlags := 48
  interfaces := #[]
  cf := some (fileOf pool3 8 #[.nestHost 39] #[{ accessFlags := 0, nameIndex := 5, descriptorIndex := 28, attributes := #[] }, { accessFlags := 0, nameIndex := 32, descriptorIndex := 33, attributes := #[] }] 48 2 #[] #[{ accessFlags := 18, nameIndex := 11, descriptorIndex := 12, attributes := #[] }, { accessFlags := 18, nameIndex := 15, descriptorIndex := 12, attributes := #[] }])
  fields := #[{ name := "first", type := .int, accessFlags := 18, slot := 0, constantValue := 0 }, { name := "last", type := .int, accessFlags := 18, slot := 1, constantValue := 0 }]
  methods := #[k3m0, k3m1]
  instanceTypes := #[.int, .int]
  staticTypes := #[]
  resolved := Array.replicate 61 none
  statics := none }

def pool4 : Array CpInfo := pool [(1, u "java/lang/Cloneable"), (0, .class_ 1), (0, u "java/lang/Object"), (0, .class_ 3)] 3

/-- java/lang/Cloneable -/
def k4 : Class := { plain "java/lang/Cloneable" (some 0) with
  accessFlags := 1537
  interfaces := #[]
  cf := some (fileOf pool4 2 #[] #[] 1537 4 #[] #[])
  fields := #[]
  methods := #[]
  instanceTypes := #[]
  staticTypes := #[]
  resolved := Array.replicate 8 none
  statics := none }

def pool5 : Array CpInfo := pool [(1, u "java/io/Serializable"), (0, .class_ 1), (0, u "java/lang/Object"), (0, .class_ 3)] 3

/-- java/io/Serializable -/
def k5 : Class := { plain "java/io/Serializable" (some 0) with
  accessFlags := 1537
  interfaces := #[]
  cf := some (fileOf pool5 2 #[] #[] 1537 4 #[] #[])
  fields := #[]
  methods := #[]
  instanceTypes := #[]
  staticTypes := #[]
  resolved := Array.replicate 8 none
  statics := none }

/-- the primitive byte -/
def k6 : Class := { plain "byte" none with kind := .primitive 'B', accessFlags := 0x411 }
/-- [B -/
def k7 : Class := { plain "[B" (some 0) with kind := .array 6 .byte, interfaces := #[4, 5], accessFlags := 1041 }

/-- the primitive int -/
def k8 : Class := { plain "int" none with kind := .primitive 'I', accessFlags := 0x411 }
/-- [I -/
def k9 : Class := { plain "[I" (some 0) with kind := .array 8 .int, interfaces := #[4, 5], accessFlags := 1041 }

def heap : Heap := #[]
def classes : Array Class := #[k0, k1, k2, k3, k4, k5, k6, k7, k8, k9]
def interned : List (Array UInt16 × Addr) := []
def slotsUsed : Nat := 0
def theMethod : MethodId := ⟨1, 1⟩
def args0 : Array Value := #[.int 1, .int 5, .int 9]
def aboutOver (below : List Frame) : State where
  vm := { classes := classes, interned := interned.toArray }
  heap := heap
  slotsUsed := slotsUsed
  threads := #[{ frames := .invoking theMethod args0 :: below }]
def below0 : List Frame := [.native { method := ⟨0, 0⟩, args := #[] }]
def about1 : State := aboutOver below0
def p0 : Program := .bare "" "" ""
def e0 : Env := launch0.env 0 0 0
theorem w_frames : about1.frames = Frame.invoking theMethod args0 :: below0 := rfl
set_option maxRecDepth 65536 in
theorem w_args : argsFit about1.vm theMethod args0 = true := by decide +kernel
set_option maxRecDepth 65536 in
theorem w_heap : heapFits about1 = true := by decide +kernel
set_option maxRecDepth 65536 in
theorem w_runnable : about1.curStatus? = some .runnable := by decide +kernel
set_option maxRecDepth 65536 in
theorem w_alone : about1.alone = true := by decide +kernel
set_option maxRecDepth 65536 in
theorem w_named : about1.methodNamed? x = some theMethod := by decide +kernel
set_option maxRecDepth 65536 in
theorem w_hears : about1.hears theMethod below0 = true := by decide +kernel
set_option maxRecDepth 65536 in
theorem w_ripe : about1.ripe theMethod args0 below0 = true := by decide +kernel
theorem w_running : about1.status = .running := rfl
set_option maxRecDepth 65536 in
theorem w_room : about1.hasRoom e0.platform room_1 = true :=
  launch0.hasRoom_least _ room_1 (by decide +kernel) (by decide +kernel) (by decide +kernel) (by decide +kernel) (by decide +kernel) (by decide +kernel)
theorem allAtoms_all (ts : List Jvm.Cond) (a : Array Jvm.Value) (st : Jvm.State) : (allAtoms ts).before a st = ts.all (fun c => c.before a st) := by
  induction ts with
  | nil => rfl
  | cons c t ih =>
    show (Jvm.Cond.and c (allAtoms t)).before a st = _
    rw [Jvm.Cond.before_and, ih, List.all_cons]
def words1 : List Jvm.Cond := Jvm.Cond.code x code maxLocals ret :: tables_1
/-- a 'code' word, met by the world's own term for the bytes: nothing is compared byte by byte -/
theorem code_word {y : MethodName} {bytes : ByteArray} {mx : Nat} {rt : Option FieldType} {a : Array Value} {s : State} {m : MethodId} {meth : Method} {c : Code} (h1 : s.methodNamed? y = some m) (h2 : s.vm.method? m = some meth) (h3 : meth.code = some c) (h4 : c.code = bytes)
    (h5 : (c.maxLocals == mx && c.exceptionTable.isEmpty && decide (c.maxStack ≤ mostOperands) && decide (meth.sig.returnType = rt) && !meth.locks && decide (parseMethodDescriptor y.desc = some meth.sig)) = true) : (Jvm.Cond.code y bytes mx rt).before a s = true := by
  simp only [Bool.and_eq_true, beq_iff_eq, Bool.not_eq_true', decide_eq_true_eq] at h5
  obtain ⟨⟨⟨⟨⟨g1, g2⟩, g3⟩, g4⟩, g5⟩, g6⟩ := h5
  simp [Cond.before, Cond.holds, Cond.value, h1, h2, h3, h4, g1, g2, g3, g4, g5, g6]
def isCode : Jvm.Cond → Bool
  | .code _ _ _ _ => true
  | _ => false
theorem all_split {L : List Jvm.Cond} {P : Jvm.Cond → Bool} (h1 : L.all (fun c => isCode c || P c) = true) (h2 : ∀ c ∈ L.filter isCode, P c = true) : L.all P = true := by
  refine List.all_eq_true.mpr fun c hc => ?_
  have h := List.all_eq_true.mp h1 c hc
  rcases Bool.eq_false_or_eq_true (isCode c) with hi | hi
  · exact h2 c (List.mem_filter.mpr ⟨hc, hi⟩)
  · simpa [hi] using h
set_option maxRecDepth 65536 in
theorem w_c0 : (Jvm.Cond.code x code maxLocals ret).before args0 about1 = true := code_word (m := ⟨1, 1⟩) (meth := k1m1) (c := k1c1) (by decide +kernel) rfl rfl rfl (by decide +kernel)
set_option maxRecDepth 65536 in
theorem w_c1 : (Jvm.Cond.code ({ cls := "com/example/shiftweave/shiftweave/WorkedDays$Run", name := "<init>", desc := "(II)V" } : Jvm.MethodName) prog_61_method_1_code (3 : Nat) (Option.none : Option Jvm.ClassFile.FieldType)).before args0 about1 = true := code_word (m := ⟨3, 0⟩) (meth := k3m0) (c := k3c0) (by decide +kernel) rfl rfl rfl (by decide +kernel)
set_option maxRecDepth 65536 in
theorem w_c2 : (Jvm.Cond.code ({ cls := "java/lang/Record", name := "<init>", desc := "()V" } : Jvm.MethodName) jdk_30_method_1_code (1 : Nat) (Option.none : Option Jvm.ClassFile.FieldType)).before args0 about1 = true := code_word (m := ⟨2, 0⟩) (meth := k2m0) (c := k2c0) (by decide +kernel) rfl rfl rfl (by decide +kernel)
set_option maxRecDepth 65536 in
theorem w_c3 : (Jvm.Cond.code ({ cls := "java/lang/Object", name := "<init>", desc := "()V" } : Jvm.MethodName) object_method_1_code (1 : Nat) (Option.none : Option Jvm.ClassFile.FieldType)).before args0 about1 = true := code_word (m := ⟨0, 0⟩) (meth := k0m0) (c := k0c0) (by decide +kernel) rfl rfl rfl (by decide +kernel)
set_option maxRecDepth 65536 in
theorem w_c4 : (Jvm.Cond.code ({ cls := "com/example/shiftweave/shiftweave/WorkedDays$Run", name := "length", desc := "()I" } : Jvm.MethodName) prog_61_method_2_code (1 : Nat) (Option.some Jvm.ClassFile.FieldType.int)).before args0 about1 = true := code_word (m := ⟨3, 1⟩) (meth := k3m1) (c := k3c1) (by decide +kernel) rfl rfl rfl (by decide +kernel)
def codes1 : List Jvm.Cond := [Jvm.Cond.code x code maxLocals ret, Jvm.Cond.code ({ cls := "com/example/shiftweave/shiftweave/WorkedDays$Run", name := "<init>", desc := "(II)V" } : Jvm.MethodName) prog_61_method_1_code (3 : Nat) (Option.none : Option Jvm.ClassFile.FieldType), Jvm.Cond.code ({ cls := "java/lang/Record", name := "<init>", desc := "()V" } : Jvm.MethodName) jdk_30_method_1_code (1 : Nat) (Option.none : Option Jvm.ClassFile.FieldType), Jvm.Cond.code ({ cls := "java/lang/Object", name := "<init>", desc := "()V" } : Jvm.MethodName) object_method_1_code (1 : Nat) (Option.none : Option Jvm.ClassFile.FieldType), Jvm.Cond.code ({ cls := "com/example/shiftweave/shiftweave/WorkedDays$Run", name := "length", desc := "()I" } : Jvm.MethodName) prog_61_method_2_code (1 : Nat) (Option.some Jvm.ClassFile.FieldType.int)]
set_option maxRecDepth 65536 in
theorem codes_eq : words1.filter isCode = codes1 := rfl
theorem w_codes : ∀ c ∈ words1.filter isCode, c.before args0 about1 = true := by
  rw [codes_eq]
  intro c hc
  simp only [codes1, List.mem_cons, List.not_mem_nil, or_false] at hc
  rcases hc with rfl | rfl | rfl | rfl | rfl
  · exact w_c0
  · exact w_c1
  · exact w_c2
  · exact w_c3
  · exact w_c4
set_option maxRecDepth 65536 in
theorem w_t1 : words1.all (fun c => isCode c || c.before args0 about1) = true := by decide +kernel
theorem w_tables : (allAtoms (Jvm.Cond.code x code maxLocals ret :: tables_1)).before args0 about1 = true := by
  rw [allAtoms_all]
  show words1.all (fun c => c.before args0 about1) = true
  refine all_split ?_ w_codes
  rw [w_t1]
set_option maxRecDepth 65536 in
theorem w_case : (Jvm.Cond.and given_1 narrow_1).before args0 about1 = true := by decide +kernel
theorem w_applies : (headSpec (Jvm.Cond.code x code maxLocals ret :: tables_1) room_1).applies x e0.platform about1 = true :=
  (Spec.applies_iff w_frames).mpr ⟨w_running, w_runnable, w_alone, w_named, w_hears, w_ripe, w_room, w_tables⟩
theorem atStart : AtStart classFile x code maxLocals ret World_1 tables_1 room_1 Calls_1 rest_1 Pre_1 launch0 p0 e0 about1 theMethod args0 below0 :=
  ⟨lists_1, trivial, launch0.admits_env _ _ _, launch0.least_env, fairChoices_fair.cas, fairChoices_fair.clock, w_frames, w_args, w_heap, w_applies, trivial, trivial, w_case⟩
end start1
theorem witness_1 : WitnessClaimed_1 := ⟨start1.p0, start1.e0, start1.about1, start1.theMethod, start1.args0, start1.below0, start1.atStart⟩
end Jvm.Pilot.@@N@@
