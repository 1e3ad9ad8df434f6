import JvmDerived
import JvmDerived.Pilot.@@N@@Statement
import JvmDerived.Pilot.@@N@@Code
set_option linter.unusedVariables false
set_option linter.unusedSimpArgs false
@@BLOCK:NumsL.lean.txt@@
namespace Jvm.RoadKit
open Sem ClassFile Op Lib Jvm.Stand Jvm.Free Jvm.LawKit
section New
variable {p : Program} {l : Launch} {e : Env} {R : Room} {s : State} {m : MethodId} {args : Array Value} {below : List Frame} {meth : Method} {c : Code} {T : State} {locs : List Loc} {cells slots : Nat}
theorem retI (X : Stand p l e R s m args below meth c T locs cells slots) (hx : p.tables.exec = Jvm.exec) {pc : Nat} {Ls : Array Slot} {z : Int32} {rest : List Value} (hret : meth.sig.returnType = some .int) (hd : decode c.code pc = .ok (.ireturn, 1)) {fs : List Frame}
    (hl : ∀ (f : JFrame) (acts : List Action), f.method = m → f.locked = none → f.entered = [] → (doReturn e (T.setTop f) acts (some (.int z))).1 = T.setFrames fs) : Steps p.tables e below (T.setTop (mkF m pc Ls (.int z :: rest))) (T.setFrames fs) := by
  have hm' : T.vm.method? m = some meth := X.method'
  have hn : narrow .int (.int z) = .int z := rfl
  show Steps p.tables e below (T.setTop { method := m, pc := pc, locals := Ls, stack := _ :: rest, locked := none }) _
  jvm_step X.here [X.here.top, hx, hd, hm', hret, hn]
  first | (intro acts; rw [hl _ acts rfl rfl rfl]) | rw [hl _ _ rfl rfl rfl]
  exact Steps.refl _
/-- the run from A comes to a return of which F says the value, the heap and the written places -/
def own_Goes (p : Program) (e : Env) (below : List Frame) (s : State) (F : Option Value → Heap → List Loc → Prop) (k n : Nat) (A : State) : Prop :=
  ∃ s₂ o, Steps p.tables e below A s₂ ∧ s₂.status = .running ∧ Ended s₂ below o ∧ ∃ v L, o = .returned v ∧ F v s₂.heap L ∧ FrameEnd s o s₂ L k n
variable {F : Option Value → Heap → List Loc → Prop} {k n : Nat}
theorem own_Goes.step {A B : State} (h : ∀ t, Steps p.tables e below B t → Steps p.tables e below A t) (g : own_Goes p e below s F k n B) : own_Goes p e below s F k n A := by
  obtain ⟨s₂, o, h1, h2⟩ := g
  exact ⟨s₂, o, h _ h1, h2⟩
theorem own_endI (X : Stand p l e R s m args below meth c T locs cells slots) (hx : p.tables.exec = Jvm.exec) (hlk : meth.locks = false) {pc : Nat} {Ls : Array Slot} {z : Int32} {rest : List Value} (hret : meth.sig.returnType = some .int) (hd : decode c.code pc = .ok (.ireturn, 1)) (hF : F (some (.int z)) T.heap locs) (hk : cells ≤ k) (hn : slots ≤ n) :
    own_Goes p e below s F k n (T.setTop (mkF m pc Ls (.int z :: rest))) := by
  obtain ⟨fs, hr, hrun, hended, hW, hsame⟩ := X.leave (v := some (.int z)) (fun h => by rw [hret] at h; cases h) hlk
  exact ⟨_, _, retI X hx hret hd hr, hrun, hended, _, _, rfl, hF, ⟨_, rfl⟩, hW, hsame.mono hk hn⟩
theorem own_endN (X : Stand p l e R s m args below meth c T locs cells slots) (hx : p.tables.exec = Jvm.exec) (hlk : meth.locks = false) {pc : Nat} {Ls : Array Slot} {z : Int32} {t : FieldType} {rest : List Value} (hret : meth.sig.returnType = some t) (ht : t = .boolean ∨ t = .byte ∨ t = .char ∨ t = .short) (hd : decode c.code pc = .ok (.ireturn, 1)) (hF : F (some (.int (nar t z))) T.heap locs) (hk : cells ≤ k) (hn : slots ≤ n) :
    own_Goes p e below s F k n (T.setTop (mkF m pc Ls (.int z :: rest))) := by
  obtain ⟨fs, hr, hrun, hended, hW, hsame⟩ := X.leave (v := some (.int (nar t z))) (fun h => by rw [hret] at h; cases h) hlk
  exact ⟨_, _, retN X hx hret ht hd hr, hrun, hended, _, _, rfl, hF, ⟨_, rfl⟩, hW, hsame.mono hk hn⟩
theorem own_endJ (X : Stand p l e R s m args below meth c T locs cells slots) (hx : p.tables.exec = Jvm.exec) (hlk : meth.locks = false) {pc : Nat} {Ls : Array Slot} {z : Int64} (hret : meth.sig.returnType = some .long) (hd : decode c.code pc = .ok (.lreturn, 1)) (hF : F (some (.long z)) T.heap locs) (hk : cells ≤ k) (hn : slots ≤ n) :
    own_Goes p e below s F k n (T.setTop (mkF m pc Ls [.long z])) := by
  obtain ⟨fs, hr, hrun, hended, hW, hsame⟩ := X.leave (v := some (.long z)) (fun h => by rw [hret] at h; cases h) hlk
  exact ⟨_, _, X.lreturnOut hx hret hd hr, hrun, hended, _, _, rfl, hF, ⟨_, rfl⟩, hW, hsame.mono hk hn⟩
theorem own_endV (X : Stand p l e R s m args below meth c T locs cells slots) (hx : p.tables.exec = Jvm.exec) (hlk : meth.locks = false) {pc : Nat} {Ls : Array Slot} (hret : meth.sig.returnType = none) (hd : decode c.code pc = .ok (.return_, 1)) (hF : F none T.heap locs) (hk : cells ≤ k) (hn : slots ≤ n) :
    own_Goes p e below s F k n (T.setTop (mkF m pc Ls [])) := by
  obtain ⟨fs, hr, hrun, hended, hW, hsame⟩ := X.leave (v := none) (fun _ => rfl) hlk
  exact ⟨_, _, X.returnOut hx hret hd hr, hrun, hended, _, _, rfl, hF, ⟨_, rfl⟩, hW, hsame.mono hk hn⟩
theorem own_endA (X : Stand p l e R s m args below meth c T locs cells slots) (hx : p.tables.exec = Jvm.exec) (hlk : meth.locks = false) {pc : Nat} {Ls : Array Slot} {w : Value} {t : FieldType} (hw : w.isRef = true) (hret : meth.sig.returnType = some t) (ht : t.isReference = true) (hd : decode c.code pc = .ok (.areturn, 1)) (hF : F (some w) T.heap locs) (hk : cells ≤ k) (hn : slots ≤ n) :
    own_Goes p e below s F k n (T.setTop (mkF m pc Ls [w])) := by
  obtain ⟨fs, hr, hrun, hended, hW, hsame⟩ := X.leave (v := some w) (fun h => by rw [hret] at h; cases h) hlk
  exact ⟨_, _, X.areturnOut hx hw hret ht hd hr, hrun, hended, _, _, rfl, hF, ⟨_, rfl⟩, hW, hsame.mono hk hn⟩
theorem own_lrem (x y : Int64) : x - x / y * y = x % y := by
  refine Int64.toInt_inj.mp ?_
  rw [Jvm.Kit.i64_rem, Int64.toInt_mod]
theorem own_lremM {g : JFrame} {target : State} (X : Stand p l e R s m args below meth c T locs cells slots) (hx : p.tables.exec = Jvm.exec) (hg : g.method = m) {x y : Int64} {rest : List Value} (hd : decode c.code g.pc = .ok (.lrem, 1)) (hs : g.stack = .long y :: .long x :: rest) (hy : y ≠ 0)
    (hr : Steps p.tables e below (T.setTop { g with pc := g.pc + 1, stack := .long (x % y) :: rest }) target) : Steps p.tables e below (T.setTop g) target :=
  XT.lrem X.here hx hg hd hs hy (by rw [own_lrem]; exact hr)
/-- the three calls, by a contract in this family, carried forward -/
theorem own_stat {Z : State} {a0 : Array Value} {h : Heap} (X : Stand p l e R s m args below meth c T locs cells slots) (hx : p.tables.exec = Jvm.exec) (hZ : Z.Warmed39 s.vm) (eT : T.heap = h) {own : String} {index : Nat} {y : MethodName} {bytes : ByteArray} {maxL : Nat} {ret : Option FieldType} {rm : Room} {W : Nat} {argsL rest : List Value} {Q : Option Value → Heap → List Loc → Prop}
    (hown : s.vm.findClass own = some m.cls) (wl : (Cond.methodLink own index y).before a0 Z = true) (wst : (Cond.static y).before a0 Z = true) (wi : (Cond.initialized y.cls).before a0 Z = true) (wc : (Cond.code y bytes maxL ret).before a0 Z = true) (hy : y.cls ≠ "java/lang/invoke/MethodHandle" ∧ y.cls ≠ "java/lang/invoke/VarHandle")
    (hM : MetFree l y (head1 [Cond.code y bytes maxL ret] rm) (fun a U => a = argsL.toArray ∧ Z.Warmed39 U.vm ∧ U.heap = h) (fun _ _ _ _ _ => True) (fun _ U o U' => ∃ w L, o = .returned w ∧ Q w U'.heap L ∧ FrameEnd U o U' L rm.cells rm.slots))
    (hf : rm.frames + 1 ≤ R.frames) (hl : W + (maxL + 11) + rm.locals ≤ R.locals) (hcells : cells + rm.cells ≤ R.cells) (hslots : slots + rm.slots ≤ R.slots)
    {g : JFrame} (hg : g.method = m) (hsize : g.locals.size = c.maxLocals) (hlen : ∀ sig, parseMethodDescriptor y.desc = some sig → argsL.length = sig.parameters.length) (hstack : g.stack = argsL.reverse ++ rest) (hW : 2 * g.monitorRoom + (rest.map fun v => v.category).sum ≤ W) (hdg : decode c.code g.pc = .ok (.invokestatic index, 3)) :
    ∃ w T' L, Q w T'.heap L ∧ Stand p l e R s m args below meth c T' (locs ++ L) (cells + rm.cells) (slots + rm.slots) ∧ ∀ t, Steps p.tables e below (T'.setTop { g with pc := g.pc + 3, stack := w.toList ++ rest }) t → Steps p.tables e below (T.setTop g) t := by
  have hB := backOf (R := R) (p := p) (e := e) (below := below) (args := args) (len := 3) (W := W) (Q := Q) hM hZ wc wi hf hl
  obtain ⟨w, vm₁, ⟨U, Lc, k1, n1⟩, -, X', ⟨L, hQ, hL, hC, hS⟩, st⟩ := Jvm.LawKit.callS X hx (y := y) hown (mvT hZ wl) (mvT hZ wst) (mvT hZ wi) (mvT hZ wc) hy hB (g := g) hg hsize hlen hstack hW hdg (fun _ _ => ⟨rfl, eT, hcells, hslots⟩)
  dsimp only [Pt.U, Pt.locs, Pt.cells, Pt.slots] at X' hQ hL hC hS st
  subst hL hC hS
  exact ⟨w, U, L, hQ, X', st⟩
theorem own_spec {Z : State} {a0 : Array Value} {h : Heap} (X : Stand p l e R s m args below meth c T locs cells slots) (hx : p.tables.exec = Jvm.exec) (hZ : Z.Warmed39 s.vm) (eT : T.heap = h) {own : String} {index : Nat} {y : MethodName} {bytes : ByteArray} {maxL : Nat} {rm : Room} {W : Nat} {a : Addr} {argsL rest : List Value} {Q : Option Value → Heap → List Loc → Prop}
    (hy1 : y.name = "<init>") (hown : s.vm.findClass own = some m.cls) (wl : (Cond.methodLink own index y).before a0 Z = true) (wst : (Cond.instanceMethod y).before a0 Z = true) (wi : (Cond.initialized y.cls).before a0 Z = true) (wc : (Cond.code y bytes maxL none).before a0 Z = true) (hy : y.cls ≠ "java/lang/invoke/MethodHandle" ∧ y.cls ≠ "java/lang/invoke/VarHandle")
    (hM : MetFree l y (head1 [Cond.code y bytes maxL none] rm) (fun b U => b = (.ref a :: argsL).toArray ∧ Z.Warmed39 U.vm ∧ U.heap = h) (fun _ _ _ _ _ => True) (fun _ U o U' => ∃ w L, o = .returned w ∧ Q w U'.heap L ∧ FrameEnd U o U' L rm.cells rm.slots))
    (hf : rm.frames + 1 ≤ R.frames) (hl : W + (maxL + 11) + rm.locals ≤ R.locals) (hcells : cells + rm.cells ≤ R.cells) (hslots : slots + rm.slots ≤ R.slots)
    {g : JFrame} (hg : g.method = m) (hsize : g.locals.size = c.maxLocals) (hlen : ∀ sig, parseMethodDescriptor y.desc = some sig → argsL.length = sig.parameters.length) (hstack : g.stack = argsL.reverse ++ .ref a :: rest) (hW : 2 * g.monitorRoom + (rest.map fun v => v.category).sum ≤ W) (hdg : decode c.code g.pc = .ok (.invokespecial index, 3)) :
    ∃ w T' L, Q w T'.heap L ∧ Stand p l e R s m args below meth c T' (locs ++ L) (cells + rm.cells) (slots + rm.slots) ∧ ∀ t, Steps p.tables e below (T'.setTop { g with pc := g.pc + 3, stack := w.toList ++ rest }) t → Steps p.tables e below (T.setTop g) t := by
  have hB := backOf (R := R) (p := p) (e := e) (below := below) (args := args) (len := 3) (W := W) (Q := Q) hM hZ wc wi hf hl
  obtain ⟨w, vm₁, ⟨U, Lc, k1, n1⟩, -, X', ⟨L, hQ, hL, hC, hS⟩, st⟩ := X.specialBack hx (y := y) hy1 hown (mvT hZ wl) (mvT hZ wst) (mvT hZ wc) hy hB (g := g) hg hsize (Steps.refl _) (a := a) hlen hstack hW hdg (fun _ _ => ⟨rfl, eT, hcells, hslots⟩)
  dsimp only [Pt.U, Pt.locs, Pt.cells, Pt.slots] at X' hQ hL hC hS st
  subst hL hC hS
  exact ⟨w, U, L, hQ, X', fun t k => st.trans k⟩
theorem own_virt {Z : State} {a0 : Array Value} {h : Heap} (X : Stand p l e R s m args below meth c T locs cells slots) (hx : p.tables.exec = Jvm.exec) (hZ : Z.Warmed39 s.vm) (eT : T.heap = h) {own C : String} {index : Nat} {y : MethodName} {bytes : ByteArray} {maxL : Nat} {ret : Option FieldType} {rm : Room} {W : Nat} {a : Addr} {argsL rest : List Value} {Q : Option Value → Heap → List Loc → Prop}
    (E : Exa Z h a C) (hown : s.vm.findClass own = some m.cls) (wl : (Cond.methodLink own index y).before a0 Z = true) (wd : (Cond.declares y).before a0 Z = true) (ws : (Cond.selects C y y).before a0 Z = true) (wst : (Cond.instanceMethod y).before a0 Z = true) (wi : (Cond.initialized y.cls).before a0 Z = true) (wc : (Cond.code y bytes maxL ret).before a0 Z = true) (hy : y.cls ≠ "java/lang/invoke/MethodHandle" ∧ y.cls ≠ "java/lang/invoke/VarHandle")
    (hM : MetFree l y (head1 [Cond.code y bytes maxL ret] rm) (fun b U => b = (.ref a :: argsL).toArray ∧ Z.Warmed39 U.vm ∧ U.heap = h) (fun _ _ _ _ _ => True) (fun _ U o U' => ∃ w L, o = .returned w ∧ Q w U'.heap L ∧ FrameEnd U o U' L rm.cells rm.slots))
    (hf : rm.frames + 1 ≤ R.frames) (hl : W + (maxL + 11) + rm.locals ≤ R.locals) (hcells : cells + rm.cells ≤ R.cells) (hslots : slots + rm.slots ≤ R.slots)
    {g : JFrame} (hg : g.method = m) (hsize : g.locals.size = c.maxLocals) (hlen : ∀ sig, parseMethodDescriptor y.desc = some sig → argsL.length = sig.parameters.length) (hstack : g.stack = argsL.reverse ++ .ref a :: rest) (hW : 2 * g.monitorRoom + (rest.map fun v => v.category).sum ≤ W) (hdg : decode c.code g.pc = .ok (.invokevirtual index, 3)) :
    ∃ w T' L, Q w T'.heap L ∧ Stand p l e R s m args below meth c T' (locs ++ L) (cells + rm.cells) (slots + rm.slots) ∧ ∀ t, Steps p.tables e below (T'.setTop { g with pc := g.pc + 3, stack := w.toList ++ rest }) t → Steps p.tables e below (T.setTop g) t := by
  have hB := backOf (R := R) (p := p) (e := e) (below := below) (args := args) (len := 3) (W := W) (Q := Q) hM hZ wc wi hf hl
  obtain ⟨cq, kq, qa, qb, qc⟩ := isOf hZ eT E
  obtain ⟨w, vm₁, ⟨U, Lc, k1, n1⟩, -, X', ⟨L, hQ, hL, hC, hS⟩, st⟩ := X.virtualBack hx (y := y) (z := y) hown (mvT hZ wl) (mvT hZ wd) (notFace_of_selects (args := #[]) (mvT hZ ws)) (mvT hZ ws) (mvT hZ wst) hy hB qa qc (g := g) hg hsize (Steps.refl _) hlen hstack hW hdg (fun _ _ => ⟨rfl, eT, hcells, hslots⟩)
  dsimp only [Pt.U, Pt.locs, Pt.cells, Pt.slots] at X' hQ hL hC hS st
  subst hL hC hS
  exact ⟨w, U, L, hQ, X', fun t k => st.trans k⟩
/-- a call that left nothing behind -/
theorem own_clean {h : Heap} {w v : Option Value} {T' : State} {L : List Loc} {k0 n0 : Nat} (q : w = v ∧ L = [] ∧ T'.heap = h) (X : Stand p l e R s m args below meth c T' (locs ++ L) (cells + k0) (slots + n0)) (hk : k0 = 0) (hn : n0 = 0) : T'.heap = h ∧ Stand p l e R s m args below meth c T' locs cells slots := by
  obtain ⟨-, rfl, hh⟩ := q
  subst hk hn
  rw [List.append_nil] at X
  exact ⟨hh, X⟩
theorem own_nin {a b : Addr} (q : b ≠ a) : b ∉ [a] := fun h => q (List.mem_singleton.mp h)
theorem own_kt {h0 : Heap} {ws : List Addr} {a : Addr} (q : a ∈ ws ∨ h0.size ≤ a) : ∀ x ∈ [a], x ∈ ws ∨ h0.size ≤ x := fun x hx => by
  cases List.mem_singleton.mp hx; exact q
end New
end Jvm.RoadKit
namespace Jvm.Pilot.@@N@@
open Jvm Jvm.ClassFile Sem Op Lib Jvm.Free Jvm.Stand Jvm.LawKit Jvm.RoadKit Bundle Jvm.Pilot.@@N@@.Jvm.D
/-! plain facts on ints and longs -/
theorem own_char16 (u : UInt16) : (u.toUInt32.toInt32).toInt = u.toNat := by
  have h := u.toNat_lt
  show BitVec.toInt u.toUInt32.toBitVec = _
  rw [BitVec.toInt_eq_toNat_of_lt (by simp; omega)]
  simp
theorem own_char (y : Int32) : 0 ≤ (y.toUInt32.toUInt16.toUInt32.toInt32).toInt ∧ (y.toUInt32.toUInt16.toUInt32.toInt32).toInt < 65536 := by
  rw [own_char16]
  have h := y.toUInt32.toUInt16.toNat_lt
  omega
theorem own_fin32 {P : Int32 → Prop} (n : Nat) (h : ∀ k : Fin n, P (Int32.ofNat k)) (c : Int32) (h0 : 0 ≤ c.toInt) (h1 : c.toInt < n) : P c := by
  have e : c = Int32.ofNat c.toInt.toNat := by
    apply Int32.toInt_inj.mp
    have hb := c.toInt_lt
    rw [Int32.toInt_ofNat_of_lt (by omega)]
    omega
  rw [e]
  exact h ⟨c.toInt.toNat, by omega⟩
theorem own_lt32 (x y : Int32) : (x < y) ↔ x.toInt < y.toInt := Int32.lt_iff_toInt_lt
theorem own_eq32 (x y : Int32) : (x = y) ↔ x.toInt = y.toInt := Int32.toInt_inj.symm
theorem own_lt64 (x y : Int64) : (x < y) ↔ x.toInt < y.toInt := Int64.lt_iff_toInt_lt
theorem own_eq64 (x y : Int64) : (x = y) ↔ x.toInt = y.toInt := Int64.toInt_inj.symm
theorem d1_0 : decode prog_16_method_30_code 0 = .ok (.iload_n 0, 1) := by decide +kernel
theorem d1_1 : decode prog_16_method_30_code 1 = .ok (.bipush 7, 2) := by decide +kernel
theorem d1_3 : decode prog_16_method_30_code 3 = .ok (.irem, 1) := by decide +kernel
theorem d1_4 : decode prog_16_method_30_code 4 = .ok (.istore_n 2, 1) := by decide +kernel
theorem d1_5 : decode prog_16_method_30_code 5 = .ok (.iload_n 2, 1) := by decide +kernel
theorem d1_6 : decode prog_16_method_30_code 6 = .ok (.iconst 5, 1) := by decide +kernel
theorem d1_7 : decode prog_16_method_30_code 7 = .ok (.if_icmp .eq 13, 3) := by decide +kernel
theorem d1_10 : decode prog_16_method_30_code 10 = .ok (.iload_n 2, 1) := by decide +kernel
theorem d1_11 : decode prog_16_method_30_code 11 = .ok (.bipush 6, 2) := by decide +kernel
theorem d1_13 : decode prog_16_method_30_code 13 = .ok (.if_icmp .ne 11, 3) := by decide +kernel
theorem d1_16 : decode prog_16_method_30_code 16 = .ok (.iload_n 1, 1) := by decide +kernel
theorem d1_17 : decode prog_16_method_30_code 17 = .ok (.ifCond .eq 7, 3) := by decide +kernel
theorem d1_20 : decode prog_16_method_30_code 20 = .ok (.iconst 1, 1) := by decide +kernel
theorem d1_21 : decode prog_16_method_30_code 21 = .ok (.goto 4, 3) := by decide +kernel
theorem d1_24 : decode prog_16_method_30_code 24 = .ok (.iconst 0, 1) := by decide +kernel
theorem d1_25 : decode prog_16_method_30_code 25 = .ok (.ireturn, 1) := by decide +kernel
theorem pn_1 : plainName "com/example/shiftweave/shiftweave/ContractTables" = true := by first | (simp [plainName, overriddenIn]; done) | decide +kernel
theorem pd_1 : parseMethodDescriptor "(IZ)Z" = some ⟨[.int, .boolean], (some .boolean)⟩ := by decide +kernel
theorem ef_1 (m : MethodId) (x0 : Int32) (x1 : Int32) : entryFrame m #[(.int x0), (.int x1)] 3 = mkF m 0 #[.val (.int x0), .val (.int x1), .unset] [] := by first | (simp [entryFrame, mkF, argsToLocals, Value.category]; done) | rfl
def own_f1 (x0 : Int32) (x1 : Int32) : Int32 := (if (x0 % (7 : Int32)) = (5 : Int32) then (1 : Int32) else (if (x0 % (7 : Int32)) = (6 : Int32) then (if x1 = (0 : Int32) then (0 : Int32) else (1 : Int32)) else (0 : Int32)))
def own_F1 (Z : State) (x0 : Int32) (x1 : Int32)  (h0 : Heap) (v : Option Value) (h : Heap) (L : List Loc) : Prop := v = some (.int (own_f1 x0 x1)) ∧ L = [] ∧ h = h0
set_option maxRecDepth 65536 in
set_option maxHeartbeats 40000000 in
theorem own_m1 (l : Launch) (Z : State) (a0 : Array Value) (hw : ∀ d ∈ tables_1, d.before a0 Z = true) (ws : List Jvm.Cond) (x0 : Int32) (x1 : Int32)  (h0 : Heap)   :
    MetFree l (⟨"com/example/shiftweave/shiftweave/ContractTables", "countsWeekend", "(IZ)Z"⟩ : MethodName) (head1 (Jvm.Cond.code (⟨"com/example/shiftweave/shiftweave/ContractTables", "countsWeekend", "(IZ)Z"⟩ : MethodName) prog_16_method_30_code 3 (some .boolean) :: ws) ({ frames := 0, cells := 0, slots := 0, locals := 0 } : Room)) (fun a U => a = #[(.int x0), (.int x1)] ∧ Z.Warmed39 U.vm ∧ U.heap = h0) (fun _ _ _ _ _ => True) (fun _ U o U' => ∃ v L, o = .returned v ∧ own_F1 Z x0 x1 h0 v U'.heap L ∧ FrameEnd U o U' L ({ frames := 0, cells := 0, slots := 0, locals := 0 } : Room).cells ({ frames := 0, cells := 0, slots := 0, locals := 0 } : Room).slots) := by
  refine MetFree.of_bodySF (plainFor_of_name pn_1) hisR ?_
  intro p e s m args below meth c s₁ Bd hml0 hP hK
  obtain ⟨rfl, hZ, hh⟩ := hP
  have hx := Bd.exec
  have hby := Bd.bytes
  have hml : c.maxLocals = 3 := hml0
  have hown : s.vm.findClass "com/example/shiftweave/shiftweave/ContractTables" = some m.cls := findClass_of_methodNamed Bd.named
  have hnm := (name_of_methodNamed Bd.named Bd.method).1
  have X0 : Stand p l e ({ frames := 0, cells := 0, slots := 0, locals := 0 } : Room) s m #[(.int x0), (.int x1)] below meth c s₁ [] 0 0 := Stand.of_body Bd
  have e0 : s₁.heap = h0 := by rw [← hh, Bd.state]; rfl
  have hgo : own_Goes p e below s (own_F1 Z x0 x1 h0) 0 0 (s₁.setTop (mkF m 0 #[.val (.int x0), .val (.int x1), .unset] [])) := by
    refine own_Goes.step (fun t k => XS.iloadN X0.here hx rfl (hb hby d1_0) rfl k) ?_
    show own_Goes p e below s (own_F1 Z x0 x1 h0) 0 0 (s₁.setTop (mkF m 1 #[.val (.int x0), .val (.int x1), .unset] [(.int x0)]))
    refine own_Goes.step (fun t k => XT.bipushV X0.here hx rfl (7 : Int32) (hb hby d1_1) (by decide) k) ?_
    show own_Goes p e below s (own_F1 Z x0 x1 h0) 0 0 (s₁.setTop (mkF m 3 #[.val (.int x0), .val (.int x1), .unset] [(.int (7 : Int32)), (.int x0)]))
    refine own_Goes.step (fun t k => iremM X0 hx rfl (hb hby d1_3) rfl (by decide) k) ?_
    show own_Goes p e below s (own_F1 Z x0 x1 h0) 0 0 (s₁.setTop (mkF m 4 #[.val (.int x0), .val (.int x1), .unset] [(.int (x0 % (7 : Int32)))]))
    refine own_Goes.step (fun t k => XS.istoreN X0.here hx rfl (hb hby d1_4) rfl (l' := #[.val (.int x0), .val (.int x1), .val (.int (x0 % (7 : Int32)))]) rfl k) ?_
    show own_Goes p e below s (own_F1 Z x0 x1 h0) 0 0 (s₁.setTop (mkF m 5 #[.val (.int x0), .val (.int x1), .val (.int (x0 % (7 : Int32)))] []))
    refine own_Goes.step (fun t k => XS.iloadN X0.here hx rfl (hb hby d1_5) rfl k) ?_
    show own_Goes p e below s (own_F1 Z x0 x1 h0) 0 0 (s₁.setTop (mkF m 6 #[.val (.int x0), .val (.int x1), .val (.int (x0 % (7 : Int32)))] [(.int (x0 % (7 : Int32)))]))
    refine own_Goes.step (fun t k => XT.iconstV X0.here hx rfl (5 : Int32) (hb hby d1_6) (by decide) k) ?_
    show own_Goes p e below s (own_F1 Z x0 x1 h0) 0 0 (s₁.setTop (mkF m 7 #[.val (.int x0), .val (.int x1), .val (.int (x0 % (7 : Int32)))] [(.int (5 : Int32)), (.int (x0 % (7 : Int32)))]))
    by_cases hc1 : (x0 % (7 : Int32)) = (5 : Int32)
    · refine own_Goes.step (fun t k => XS.icmpYes X0.here hx rfl (pc0 := 7) (pc' := 20) rfl (hb hby d1_7) rfl (XT.ii_eq_t hc1) (by decide) (by decide) k) ?_
      show own_Goes p e below s (own_F1 Z x0 x1 h0) 0 0 (s₁.setTop (mkF m 20 #[.val (.int x0), .val (.int x1), .val (.int (x0 % (7 : Int32)))] []))
      refine own_Goes.step (fun t k => XT.iconstV X0.here hx rfl (1 : Int32) (hb hby d1_20) (by decide) k) ?_
      show own_Goes p e below s (own_F1 Z x0 x1 h0) 0 0 (s₁.setTop (mkF m 21 #[.val (.int x0), .val (.int x1), .val (.int (x0 % (7 : Int32)))] [(.int (1 : Int32))]))
      refine own_Goes.step (fun t k => XS.goto X0.here hx rfl (pc0 := 21) (pc' := 25) rfl (hb hby d1_21) (by decide) (by decide) k) ?_
      show own_Goes p e below s (own_F1 Z x0 x1 h0) 0 0 (s₁.setTop (mkF m 25 #[.val (.int x0), .val (.int x1), .val (.int (x0 % (7 : Int32)))] [(.int (1 : Int32))]))
      exact own_endN X0 hx Bd.notSynchronized (t := .boolean) Bd.returns (by simp) (hb hby d1_25) ⟨(congrArg (fun z => some (Value.int z)) (show (1 : Int32) = own_f1 x0 x1 from by simp only [own_f1, if_pos hc1])), rfl, e0⟩ (by decide) (by decide)
    · refine own_Goes.step (fun t k => XS.icmpNo X0.here hx rfl (hb hby d1_7) rfl (XT.ii_eq_f hc1) k) ?_
      show own_Goes p e below s (own_F1 Z x0 x1 h0) 0 0 (s₁.setTop (mkF m 10 #[.val (.int x0), .val (.int x1), .val (.int (x0 % (7 : Int32)))] []))
      refine own_Goes.step (fun t k => XS.iloadN X0.here hx rfl (hb hby d1_10) rfl k) ?_
      show own_Goes p e below s (own_F1 Z x0 x1 h0) 0 0 (s₁.setTop (mkF m 11 #[.val (.int x0), .val (.int x1), .val (.int (x0 % (7 : Int32)))] [(.int (x0 % (7 : Int32)))]))
      refine own_Goes.step (fun t k => XT.bipushV X0.here hx rfl (6 : Int32) (hb hby d1_11) (by decide) k) ?_
      show own_Goes p e below s (own_F1 Z x0 x1 h0) 0 0 (s₁.setTop (mkF m 13 #[.val (.int x0), .val (.int x1), .val (.int (x0 % (7 : Int32)))] [(.int (6 : Int32)), (.int (x0 % (7 : Int32)))]))
      by_cases hc2 : (x0 % (7 : Int32)) = (6 : Int32)
      · refine own_Goes.step (fun t k => XS.icmpNo X0.here hx rfl (hb hby d1_13) rfl (XT.ii_ne_f hc2) k) ?_
        show own_Goes p e below s (own_F1 Z x0 x1 h0) 0 0 (s₁.setTop (mkF m 16 #[.val (.int x0), .val (.int x1), .val (.int (x0 % (7 : Int32)))] []))
        refine own_Goes.step (fun t k => XS.iloadN X0.here hx rfl (hb hby d1_16) rfl k) ?_
        show own_Goes p e below s (own_F1 Z x0 x1 h0) 0 0 (s₁.setTop (mkF m 17 #[.val (.int x0), .val (.int x1), .val (.int (x0 % (7 : Int32)))] [(.int x1)]))
        by_cases hc3 : x1 = (0 : Int32)
        · refine own_Goes.step (fun t k => XS.ifYes X0.here hx rfl (pc0 := 17) (pc' := 24) rfl (hb hby d1_17) rfl (XT.i0_eq_t hc3) (by decide) (by decide) k) ?_
          show own_Goes p e below s (own_F1 Z x0 x1 h0) 0 0 (s₁.setTop (mkF m 24 #[.val (.int x0), .val (.int x1), .val (.int (x0 % (7 : Int32)))] []))
          refine own_Goes.step (fun t k => XT.iconstV X0.here hx rfl (0 : Int32) (hb hby d1_24) (by decide) k) ?_
          show own_Goes p e below s (own_F1 Z x0 x1 h0) 0 0 (s₁.setTop (mkF m 25 #[.val (.int x0), .val (.int x1), .val (.int (x0 % (7 : Int32)))] [(.int (0 : Int32))]))
          exact own_endN X0 hx Bd.notSynchronized (t := .boolean) Bd.returns (by simp) (hb hby d1_25) ⟨(congrArg (fun z => some (Value.int z)) (show (0 : Int32) = own_f1 x0 x1 from by simp only [own_f1, if_neg hc1, if_pos hc2, if_pos hc3])), rfl, e0⟩ (by decide) (by decide)
        · refine own_Goes.step (fun t k => XS.ifNo X0.here hx rfl (hb hby d1_17) rfl (XT.i0_eq_f hc3) k) ?_
          show own_Goes p e below s (own_F1 Z x0 x1 h0) 0 0 (s₁.setTop (mkF m 20 #[.val (.int x0), .val (.int x1), .val (.int (x0 % (7 : Int32)))] []))
          refine own_Goes.step (fun t k => XT.iconstV X0.here hx rfl (1 : Int32) (hb hby d1_20) (by decide) k) ?_
          show own_Goes p e below s (own_F1 Z x0 x1 h0) 0 0 (s₁.setTop (mkF m 21 #[.val (.int x0), .val (.int x1), .val (.int (x0 % (7 : Int32)))] [(.int (1 : Int32))]))
          refine own_Goes.step (fun t k => XS.goto X0.here hx rfl (pc0 := 21) (pc' := 25) rfl (hb hby d1_21) (by decide) (by decide) k) ?_
          show own_Goes p e below s (own_F1 Z x0 x1 h0) 0 0 (s₁.setTop (mkF m 25 #[.val (.int x0), .val (.int x1), .val (.int (x0 % (7 : Int32)))] [(.int (1 : Int32))]))
          exact own_endN X0 hx Bd.notSynchronized (t := .boolean) Bd.returns (by simp) (hb hby d1_25) ⟨(congrArg (fun z => some (Value.int z)) (show (1 : Int32) = own_f1 x0 x1 from by simp only [own_f1, if_neg hc1, if_pos hc2, if_neg hc3])), rfl, e0⟩ (by decide) (by decide)
      · refine own_Goes.step (fun t k => XS.icmpYes X0.here hx rfl (pc0 := 13) (pc' := 24) rfl (hb hby d1_13) rfl (XT.ii_ne_t hc2) (by decide) (by decide) k) ?_
        show own_Goes p e below s (own_F1 Z x0 x1 h0) 0 0 (s₁.setTop (mkF m 24 #[.val (.int x0), .val (.int x1), .val (.int (x0 % (7 : Int32)))] []))
        refine own_Goes.step (fun t k => XT.iconstV X0.here hx rfl (0 : Int32) (hb hby d1_24) (by decide) k) ?_
        show own_Goes p e below s (own_F1 Z x0 x1 h0) 0 0 (s₁.setTop (mkF m 25 #[.val (.int x0), .val (.int x1), .val (.int (x0 % (7 : Int32)))] [(.int (0 : Int32))]))
        exact own_endN X0 hx Bd.notSynchronized (t := .boolean) Bd.returns (by simp) (hb hby d1_25) ⟨(congrArg (fun z => some (Value.int z)) (show (0 : Int32) = own_f1 x0 x1 from by simp only [own_f1, if_neg hc1, if_neg hc2])), rfl, e0⟩ (by decide) (by decide)
  obtain ⟨t2, o2, q1, q2, q3, q4⟩ := hgo
  exact ⟨t2, o2, castTop (ef_1 m x0 x1) q1, q2, q3, q4⟩
theorem pn_0 : plainName "com/example/shiftweave/shiftweave/ContractTablesCountsWeekendPinLaw" = true := by first | (simp [plainName, overriddenIn]; done) | decide +kernel
theorem pd_0 : parseMethodDescriptor "(III)Z" = some ⟨[.int, .int, .int], (some .boolean)⟩ := by decide +kernel
theorem ef_0 (m : MethodId) (x0 : Int32) (x1 : Int32) (x2 : Int32) : entryFrame m #[(.int x0), (.int x1), (.int x2)] maxLocals = mkF m 0 #[.val (.int x0), .val (.int x1), .val (.int x2), .unset, .unset, .unset, .unset, .unset, .unset, .unset, .unset] [] := by first | (simp [entryFrame, mkF, argsToLocals, Value.category, maxLocals]; done) | rfl
def own_f0_1 (x0 : Int32) (x1 : Int32) (x2 : Int32) : Int64 := (((x0 &&& (2147483647 : Int32)).toInt64) % (306783379 : Int64))
def own_f0_2 (x0 : Int32) (x1 : Int32) (x2 : Int32) : Int32 := (if (x2 &&& (1 : Int32)) = (0 : Int32) then (0 : Int32) else (1 : Int32))
def own_f0_3 (x0 : Int32) (x1 : Int32) (x2 : Int32) : Int64 := (((7 : Int64) * (own_f0_1 x0 x1 x2)) + (((x1 &&& (2147483647 : Int32)) % (7 : Int32)).toInt64))
def own_f0_4 (x0 : Int32) (x1 : Int32) (x2 : Int32) : Int32 := (if ((x1 &&& (2147483647 : Int32)) % (7 : Int32)) = (5 : Int32) then (1 : Int32) else (if ((x1 &&& (2147483647 : Int32)) % (7 : Int32)) = (6 : Int32) then (own_f0_2 x0 x1 x2) else (0 : Int32)))
def own_f0 (x0 : Int32) (x1 : Int32) (x2 : Int32) : Int32 := (if (2147483647 : Int64) < (own_f0_3 x0 x1 x2) then (1 : Int32) else (if (own_f1 ((own_f0_3 x0 x1 x2).toInt32) (own_f0_2 x0 x1 x2)) = (own_f0_4 x0 x1 x2) then (1 : Int32) else (0 : Int32)))
def own_F0 (Z : State) (x0 : Int32) (x1 : Int32) (x2 : Int32)  (n0 : Nat) (h0 : Heap) (v : Option Value) (h : Heap) (L : List Loc) : Prop := v = some (.int (own_f0 x0 x1 x2)) ∧ Fr n0 L
set_option maxRecDepth 65536 in
set_option maxHeartbeats 40000000 in
theorem own_m0 (l : Launch) (Z : State) (a0 : Array Value) (hw : ∀ d ∈ tables_1, d.before a0 Z = true) (ws : List Jvm.Cond) (x0 : Int32) (x1 : Int32) (x2 : Int32)  (n0 : Nat) (h0 : Heap) (Z0 : n0 ≤ h0.size)   :
    MetFree l x (head1 (Jvm.Cond.code x code maxLocals ret :: ws) room_1) (fun a U => a = #[(.int x0), (.int x1), (.int x2)] ∧ Z.Warmed39 U.vm ∧ U.heap = h0) (fun _ _ _ _ _ => True) (fun _ U o U' => ∃ v L, o = .returned v ∧ own_F0 Z x0 x1 x2 n0 h0 v U'.heap L ∧ FrameEnd U o U' L room_1.cells room_1.slots) := by
  refine MetFree.of_bodySF (plainFor_of_name pn_0) hisR ?_
  intro p e s m args below meth c s₁ Bd hml0 hP hK
  obtain ⟨rfl, hZ, hh⟩ := hP
  have hx := Bd.exec
  have hby := Bd.bytes
  have hml : c.maxLocals = 11 := hml0
  have hown : s.vm.findClass "com/example/shiftweave/shiftweave/ContractTablesCountsWeekendPinLaw" = some m.cls := findClass_of_methodNamed Bd.named
  have hnm := (name_of_methodNamed Bd.named Bd.method).1
  have X0 : Stand p l e room_1 s m #[(.int x0), (.int x1), (.int x2)] below meth c s₁ [] 0 0 := Stand.of_body Bd
  have e0 : s₁.heap = h0 := by rw [← hh, Bd.state]; rfl
  have N0 := Fr.nil n0
  have K0 : Keep h0 h0 [] := Keep.refl h0 []
  have hgo : own_Goes p e below s (own_F0 Z x0 x1 x2 n0 h0) room_1.cells room_1.slots (s₁.setTop (mkF m 0 #[.val (.int x0), .val (.int x1), .val (.int x2), .unset, .unset, .unset, .unset, .unset, .unset, .unset, .unset] [])) := by
    refine own_Goes.step (fun t k => XS.iloadN X0.here hx rfl (hb hby at_0) rfl k) ?_
    show own_Goes p e below s (own_F0 Z x0 x1 x2 n0 h0) room_1.cells room_1.slots (s₁.setTop (mkF m 1 #[.val (.int x0), .val (.int x1), .val (.int x2), .unset, .unset, .unset, .unset, .unset, .unset, .unset, .unset] [(.int x0)]))
    refine own_Goes.step (fun t k => X0.ldcI hx hown (mvT hZ (hw _ (List.mem_of_getElem? (i := 0) rfl))) rfl (hb hby at_1) k) ?_
    show own_Goes p e below s (own_F0 Z x0 x1 x2 n0 h0) room_1.cells room_1.slots (s₁.setTop (mkF m 3 #[.val (.int x0), .val (.int x1), .val (.int x2), .unset, .unset, .unset, .unset, .unset, .unset, .unset, .unset] [(.int (2147483647 : Int32)), (.int x0)]))
    refine own_Goes.step (fun t k => XS.iand X0.here hx rfl (hb hby at_3) rfl k) ?_
    show own_Goes p e below s (own_F0 Z x0 x1 x2 n0 h0) room_1.cells room_1.slots (s₁.setTop (mkF m 4 #[.val (.int x0), .val (.int x1), .val (.int x2), .unset, .unset, .unset, .unset, .unset, .unset, .unset, .unset] [(.int (x0 &&& (2147483647 : Int32)))]))
    refine own_Goes.step (fun t k => XT.i2l X0.here hx rfl (hb hby at_4) rfl k) ?_
    show own_Goes p e below s (own_F0 Z x0 x1 x2 n0 h0) room_1.cells room_1.slots (s₁.setTop (mkF m 5 #[.val (.int x0), .val (.int x1), .val (.int x2), .unset, .unset, .unset, .unset, .unset, .unset, .unset, .unset] [(.long ((x0 &&& (2147483647 : Int32)).toInt64))]))
    refine own_Goes.step (fun t k => X0.ldc2J hx hown (mvT hZ (hw _ (List.mem_of_getElem? (i := 1) rfl))) rfl (hb hby at_5) k) ?_
    show own_Goes p e below s (own_F0 Z x0 x1 x2 n0 h0) room_1.cells room_1.slots (s₁.setTop (mkF m 8 #[.val (.int x0), .val (.int x1), .val (.int x2), .unset, .unset, .unset, .unset, .unset, .unset, .unset, .unset] [(.long (306783379 : Int64)), (.long ((x0 &&& (2147483647 : Int32)).toInt64))]))
    refine own_Goes.step (fun t k => own_lremM X0 hx rfl (hb hby at_8) rfl (by decide) k) ?_
    show own_Goes p e below s (own_F0 Z x0 x1 x2 n0 h0) room_1.cells room_1.slots (s₁.setTop (mkF m 9 #[.val (.int x0), .val (.int x1), .val (.int x2), .unset, .unset, .unset, .unset, .unset, .unset, .unset, .unset] [(.long (((x0 &&& (2147483647 : Int32)).toInt64) % (306783379 : Int64)))]))
    refine own_Goes.step (fun t k => XT.lstoreN X0.here hx rfl (hb hby at_9) rfl (l' := #[.val (.int x0), .val (.int x1), .val (.int x2), .val (.long (own_f0_1 x0 x1 x2)), .second, .unset, .unset, .unset, .unset, .unset, .unset]) rfl k) ?_
    show own_Goes p e below s (own_F0 Z x0 x1 x2 n0 h0) room_1.cells room_1.slots (s₁.setTop (mkF m 10 #[.val (.int x0), .val (.int x1), .val (.int x2), .val (.long (own_f0_1 x0 x1 x2)), .second, .unset, .unset, .unset, .unset, .unset, .unset] []))
    refine own_Goes.step (fun t k => XS.iloadN X0.here hx rfl (hb hby at_10) rfl k) ?_
    show own_Goes p e below s (own_F0 Z x0 x1 x2 n0 h0) room_1.cells room_1.slots (s₁.setTop (mkF m 11 #[.val (.int x0), .val (.int x1), .val (.int x2), .val (.long (own_f0_1 x0 x1 x2)), .second, .unset, .unset, .unset, .unset, .unset, .unset] [(.int x1)]))
    refine own_Goes.step (fun t k => X0.ldcI hx hown (mvT hZ (hw _ (List.mem_of_getElem? (i := 0) rfl))) rfl (hb hby at_11) k) ?_
    show own_Goes p e below s (own_F0 Z x0 x1 x2 n0 h0) room_1.cells room_1.slots (s₁.setTop (mkF m 13 #[.val (.int x0), .val (.int x1), .val (.int x2), .val (.long (own_f0_1 x0 x1 x2)), .second, .unset, .unset, .unset, .unset, .unset, .unset] [(.int (2147483647 : Int32)), (.int x1)]))
    refine own_Goes.step (fun t k => XS.iand X0.here hx rfl (hb hby at_13) rfl k) ?_
    show own_Goes p e below s (own_F0 Z x0 x1 x2 n0 h0) room_1.cells room_1.slots (s₁.setTop (mkF m 14 #[.val (.int x0), .val (.int x1), .val (.int x2), .val (.long (own_f0_1 x0 x1 x2)), .second, .unset, .unset, .unset, .unset, .unset, .unset] [(.int (x1 &&& (2147483647 : Int32)))]))
    refine own_Goes.step (fun t k => XT.bipushV X0.here hx rfl (7 : Int32) (hb hby at_14) (by decide) k) ?_
    show own_Goes p e below s (own_F0 Z x0 x1 x2 n0 h0) room_1.cells room_1.slots (s₁.setTop (mkF m 16 #[.val (.int x0), .val (.int x1), .val (.int x2), .val (.long (own_f0_1 x0 x1 x2)), .second, .unset, .unset, .unset, .unset, .unset, .unset] [(.int (7 : Int32)), (.int (x1 &&& (2147483647 : Int32)))]))
    refine own_Goes.step (fun t k => iremM X0 hx rfl (hb hby at_16) rfl (by decide) k) ?_
    show own_Goes p e below s (own_F0 Z x0 x1 x2 n0 h0) room_1.cells room_1.slots (s₁.setTop (mkF m 17 #[.val (.int x0), .val (.int x1), .val (.int x2), .val (.long (own_f0_1 x0 x1 x2)), .second, .unset, .unset, .unset, .unset, .unset, .unset] [(.int ((x1 &&& (2147483647 : Int32)) % (7 : Int32)))]))
    refine own_Goes.step (fun t k => XS.istore X0.here hx rfl (hb hby at_17) rfl (l' := #[.val (.int x0), .val (.int x1), .val (.int x2), .val (.long (own_f0_1 x0 x1 x2)), .second, .val (.int ((x1 &&& (2147483647 : Int32)) % (7 : Int32))), .unset, .unset, .unset, .unset, .unset]) rfl k) ?_
    show own_Goes p e below s (own_F0 Z x0 x1 x2 n0 h0) room_1.cells room_1.slots (s₁.setTop (mkF m 19 #[.val (.int x0), .val (.int x1), .val (.int x2), .val (.long (own_f0_1 x0 x1 x2)), .second, .val (.int ((x1 &&& (2147483647 : Int32)) % (7 : Int32))), .unset, .unset, .unset, .unset, .unset] []))
    refine own_Goes.step (fun t k => XS.iloadN X0.here hx rfl (hb hby at_19) rfl k) ?_
    show own_Goes p e below s (own_F0 Z x0 x1 x2 n0 h0) room_1.cells room_1.slots (s₁.setTop (mkF m 20 #[.val (.int x0), .val (.int x1), .val (.int x2), .val (.long (own_f0_1 x0 x1 x2)), .second, .val (.int ((x1 &&& (2147483647 : Int32)) % (7 : Int32))), .unset, .unset, .unset, .unset, .unset] [(.int x2)]))
    refine own_Goes.step (fun t k => XT.iconstV X0.here hx rfl (1 : Int32) (hb hby at_20) (by decide) k) ?_
    show own_Goes p e below s (own_F0 Z x0 x1 x2 n0 h0) room_1.cells room_1.slots (s₁.setTop (mkF m 21 #[.val (.int x0), .val (.int x1), .val (.int x2), .val (.long (own_f0_1 x0 x1 x2)), .second, .val (.int ((x1 &&& (2147483647 : Int32)) % (7 : Int32))), .unset, .unset, .unset, .unset, .unset] [(.int (1 : Int32)), (.int x2)]))
    refine own_Goes.step (fun t k => XS.iand X0.here hx rfl (hb hby at_21) rfl k) ?_
    show own_Goes p e below s (own_F0 Z x0 x1 x2 n0 h0) room_1.cells room_1.slots (s₁.setTop (mkF m 22 #[.val (.int x0), .val (.int x1), .val (.int x2), .val (.long (own_f0_1 x0 x1 x2)), .second, .val (.int ((x1 &&& (2147483647 : Int32)) % (7 : Int32))), .unset, .unset, .unset, .unset, .unset] [(.int (x2 &&& (1 : Int32)))]))
    have J8 : own_Goes p e below s (own_F0 Z x0 x1 x2 n0 h0) room_1.cells room_1.slots (s₁.setTop (mkF m 30 #[.val (.int x0), .val (.int x1), .val (.int x2), .val (.long (own_f0_1 x0 x1 x2)), .second, .val (.int ((x1 &&& (2147483647 : Int32)) % (7 : Int32))), .unset, .unset, .unset, .unset, .unset] [(.int (own_f0_2 x0 x1 x2))])) := by
      refine own_Goes.step (fun t k => XS.istore X0.here hx rfl (hb hby at_30) rfl (l' := #[.val (.int x0), .val (.int x1), .val (.int x2), .val (.long (own_f0_1 x0 x1 x2)), .second, .val (.int ((x1 &&& (2147483647 : Int32)) % (7 : Int32))), .val (.int (own_f0_2 x0 x1 x2)), .unset, .unset, .unset, .unset]) rfl k) ?_
      show own_Goes p e below s (own_F0 Z x0 x1 x2 n0 h0) room_1.cells room_1.slots (s₁.setTop (mkF m 32 #[.val (.int x0), .val (.int x1), .val (.int x2), .val (.long (own_f0_1 x0 x1 x2)), .second, .val (.int ((x1 &&& (2147483647 : Int32)) % (7 : Int32))), .val (.int (own_f0_2 x0 x1 x2)), .unset, .unset, .unset, .unset] []))
      refine own_Goes.step (fun t k => X0.ldc2J hx hown (mvT hZ (hw _ (List.mem_of_getElem? (i := 2) rfl))) rfl (hb hby at_32) k) ?_
      show own_Goes p e below s (own_F0 Z x0 x1 x2 n0 h0) room_1.cells room_1.slots (s₁.setTop (mkF m 35 #[.val (.int x0), .val (.int x1), .val (.int x2), .val (.long (own_f0_1 x0 x1 x2)), .second, .val (.int ((x1 &&& (2147483647 : Int32)) % (7 : Int32))), .val (.int (own_f0_2 x0 x1 x2)), .unset, .unset, .unset, .unset] [(.long (7 : Int64))]))
      refine own_Goes.step (fun t k => XT.lloadN X0.here hx rfl (hb hby at_35) rfl k) ?_
      show own_Goes p e below s (own_F0 Z x0 x1 x2 n0 h0) room_1.cells room_1.slots (s₁.setTop (mkF m 36 #[.val (.int x0), .val (.int x1), .val (.int x2), .val (.long (own_f0_1 x0 x1 x2)), .second, .val (.int ((x1 &&& (2147483647 : Int32)) % (7 : Int32))), .val (.int (own_f0_2 x0 x1 x2)), .unset, .unset, .unset, .unset] [(.long (own_f0_1 x0 x1 x2)), (.long (7 : Int64))]))
      refine own_Goes.step (fun t k => XT.lmul X0.here hx rfl (hb hby at_36) rfl k) ?_
      show own_Goes p e below s (own_F0 Z x0 x1 x2 n0 h0) room_1.cells room_1.slots (s₁.setTop (mkF m 37 #[.val (.int x0), .val (.int x1), .val (.int x2), .val (.long (own_f0_1 x0 x1 x2)), .second, .val (.int ((x1 &&& (2147483647 : Int32)) % (7 : Int32))), .val (.int (own_f0_2 x0 x1 x2)), .unset, .unset, .unset, .unset] [(.long ((7 : Int64) * (own_f0_1 x0 x1 x2)))]))
      refine own_Goes.step (fun t k => XS.iload X0.here hx rfl (hb hby at_37) rfl k) ?_
      show own_Goes p e below s (own_F0 Z x0 x1 x2 n0 h0) room_1.cells room_1.slots (s₁.setTop (mkF m 39 #[.val (.int x0), .val (.int x1), .val (.int x2), .val (.long (own_f0_1 x0 x1 x2)), .second, .val (.int ((x1 &&& (2147483647 : Int32)) % (7 : Int32))), .val (.int (own_f0_2 x0 x1 x2)), .unset, .unset, .unset, .unset] [(.int ((x1 &&& (2147483647 : Int32)) % (7 : Int32))), (.long ((7 : Int64) * (own_f0_1 x0 x1 x2)))]))
      refine own_Goes.step (fun t k => XT.i2l X0.here hx rfl (hb hby at_39) rfl k) ?_
      show own_Goes p e below s (own_F0 Z x0 x1 x2 n0 h0) room_1.cells room_1.slots (s₁.setTop (mkF m 40 #[.val (.int x0), .val (.int x1), .val (.int x2), .val (.long (own_f0_1 x0 x1 x2)), .second, .val (.int ((x1 &&& (2147483647 : Int32)) % (7 : Int32))), .val (.int (own_f0_2 x0 x1 x2)), .unset, .unset, .unset, .unset] [(.long (((x1 &&& (2147483647 : Int32)) % (7 : Int32)).toInt64)), (.long ((7 : Int64) * (own_f0_1 x0 x1 x2)))]))
      refine own_Goes.step (fun t k => XT.ladd X0.here hx rfl (hb hby at_40) rfl k) ?_
      show own_Goes p e below s (own_F0 Z x0 x1 x2 n0 h0) room_1.cells room_1.slots (s₁.setTop (mkF m 41 #[.val (.int x0), .val (.int x1), .val (.int x2), .val (.long (own_f0_1 x0 x1 x2)), .second, .val (.int ((x1 &&& (2147483647 : Int32)) % (7 : Int32))), .val (.int (own_f0_2 x0 x1 x2)), .unset, .unset, .unset, .unset] [(.long (((7 : Int64) * (own_f0_1 x0 x1 x2)) + (((x1 &&& (2147483647 : Int32)) % (7 : Int32)).toInt64)))]))
      refine own_Goes.step (fun t k => XT.lstore X0.here hx rfl (hb hby at_41) rfl (l' := #[.val (.int x0), .val (.int x1), .val (.int x2), .val (.long (own_f0_1 x0 x1 x2)), .second, .val (.int ((x1 &&& (2147483647 : Int32)) % (7 : Int32))), .val (.int (own_f0_2 x0 x1 x2)), .val (.long (own_f0_3 x0 x1 x2)), .second, .unset, .unset]) rfl k) ?_
      show own_Goes p e below s (own_F0 Z x0 x1 x2 n0 h0) room_1.cells room_1.slots (s₁.setTop (mkF m 43 #[.val (.int x0), .val (.int x1), .val (.int x2), .val (.long (own_f0_1 x0 x1 x2)), .second, .val (.int ((x1 &&& (2147483647 : Int32)) % (7 : Int32))), .val (.int (own_f0_2 x0 x1 x2)), .val (.long (own_f0_3 x0 x1 x2)), .second, .unset, .unset] []))
      refine own_Goes.step (fun t k => XT.lload X0.here hx rfl (hb hby at_43) rfl k) ?_
      show own_Goes p e below s (own_F0 Z x0 x1 x2 n0 h0) room_1.cells room_1.slots (s₁.setTop (mkF m 45 #[.val (.int x0), .val (.int x1), .val (.int x2), .val (.long (own_f0_1 x0 x1 x2)), .second, .val (.int ((x1 &&& (2147483647 : Int32)) % (7 : Int32))), .val (.int (own_f0_2 x0 x1 x2)), .val (.long (own_f0_3 x0 x1 x2)), .second, .unset, .unset] [(.long (own_f0_3 x0 x1 x2))]))
      refine own_Goes.step (fun t k => X0.ldc2J hx hown (mvT hZ (hw _ (List.mem_of_getElem? (i := 3) rfl))) rfl (hb hby at_45) k) ?_
      show own_Goes p e below s (own_F0 Z x0 x1 x2 n0 h0) room_1.cells room_1.slots (s₁.setTop (mkF m 48 #[.val (.int x0), .val (.int x1), .val (.int x2), .val (.long (own_f0_1 x0 x1 x2)), .second, .val (.int ((x1 &&& (2147483647 : Int32)) % (7 : Int32))), .val (.int (own_f0_2 x0 x1 x2)), .val (.long (own_f0_3 x0 x1 x2)), .second, .unset, .unset] [(.long (2147483647 : Int64)), (.long (own_f0_3 x0 x1 x2))]))
      refine own_Goes.step (fun t k => XT.lcmp X0.here hx rfl (hb hby at_48) rfl k) ?_
      show own_Goes p e below s (own_F0 Z x0 x1 x2 n0 h0) room_1.cells room_1.slots (s₁.setTop (mkF m 49 #[.val (.int x0), .val (.int x1), .val (.int x2), .val (.long (own_f0_1 x0 x1 x2)), .second, .val (.int ((x1 &&& (2147483647 : Int32)) % (7 : Int32))), .val (.int (own_f0_2 x0 x1 x2)), .val (.long (own_f0_3 x0 x1 x2)), .second, .unset, .unset] [(.int (XT.cmpL (own_f0_3 x0 x1 x2) (2147483647 : Int64)))]))
      by_cases hc2 : (2147483647 : Int64) < (own_f0_3 x0 x1 x2)
      · refine own_Goes.step (fun t k => XS.ifNo X0.here hx rfl (hb hby at_49) rfl (XT.ll_le_f hc2) k) ?_
        show own_Goes p e below s (own_F0 Z x0 x1 x2 n0 h0) room_1.cells room_1.slots (s₁.setTop (mkF m 52 #[.val (.int x0), .val (.int x1), .val (.int x2), .val (.long (own_f0_1 x0 x1 x2)), .second, .val (.int ((x1 &&& (2147483647 : Int32)) % (7 : Int32))), .val (.int (own_f0_2 x0 x1 x2)), .val (.long (own_f0_3 x0 x1 x2)), .second, .unset, .unset] []))
        refine own_Goes.step (fun t k => XT.iconstV X0.here hx rfl (1 : Int32) (hb hby at_52) (by decide) k) ?_
        show own_Goes p e below s (own_F0 Z x0 x1 x2 n0 h0) room_1.cells room_1.slots (s₁.setTop (mkF m 53 #[.val (.int x0), .val (.int x1), .val (.int x2), .val (.long (own_f0_1 x0 x1 x2)), .second, .val (.int ((x1 &&& (2147483647 : Int32)) % (7 : Int32))), .val (.int (own_f0_2 x0 x1 x2)), .val (.long (own_f0_3 x0 x1 x2)), .second, .unset, .unset] [(.int (1 : Int32))]))
        exact own_endN X0 hx Bd.notSynchronized (t := .boolean) Bd.returns (by simp) (hb hby at_53) ⟨(congrArg (fun z => some (Value.int z)) (show (1 : Int32) = own_f0 x0 x1 x2 from by simp only [own_f0, if_pos hc2])), N0⟩ (by decide) (by decide)
      · refine own_Goes.step (fun t k => XS.ifYes X0.here hx rfl (pc0 := 49) (pc' := 54) rfl (hb hby at_49) rfl (XT.ll_le_t hc2) (by decide) (by decide) k) ?_
        show own_Goes p e below s (own_F0 Z x0 x1 x2 n0 h0) room_1.cells room_1.slots (s₁.setTop (mkF m 54 #[.val (.int x0), .val (.int x1), .val (.int x2), .val (.long (own_f0_1 x0 x1 x2)), .second, .val (.int ((x1 &&& (2147483647 : Int32)) % (7 : Int32))), .val (.int (own_f0_2 x0 x1 x2)), .val (.long (own_f0_3 x0 x1 x2)), .second, .unset, .unset] []))
        refine own_Goes.step (fun t k => XT.lload X0.here hx rfl (hb hby at_54) rfl k) ?_
        show own_Goes p e below s (own_F0 Z x0 x1 x2 n0 h0) room_1.cells room_1.slots (s₁.setTop (mkF m 56 #[.val (.int x0), .val (.int x1), .val (.int x2), .val (.long (own_f0_1 x0 x1 x2)), .second, .val (.int ((x1 &&& (2147483647 : Int32)) % (7 : Int32))), .val (.int (own_f0_2 x0 x1 x2)), .val (.long (own_f0_3 x0 x1 x2)), .second, .unset, .unset] [(.long (own_f0_3 x0 x1 x2))]))
        refine own_Goes.step (fun t k => XT.l2i X0.here hx rfl (hb hby at_56) rfl k) ?_
        show own_Goes p e below s (own_F0 Z x0 x1 x2 n0 h0) room_1.cells room_1.slots (s₁.setTop (mkF m 57 #[.val (.int x0), .val (.int x1), .val (.int x2), .val (.long (own_f0_1 x0 x1 x2)), .second, .val (.int ((x1 &&& (2147483647 : Int32)) % (7 : Int32))), .val (.int (own_f0_2 x0 x1 x2)), .val (.long (own_f0_3 x0 x1 x2)), .second, .unset, .unset] [(.int ((own_f0_3 x0 x1 x2).toInt32))]))
        refine own_Goes.step (fun t k => XS.istore X0.here hx rfl (hb hby at_57) rfl (l' := #[.val (.int x0), .val (.int x1), .val (.int x2), .val (.long (own_f0_1 x0 x1 x2)), .second, .val (.int ((x1 &&& (2147483647 : Int32)) % (7 : Int32))), .val (.int (own_f0_2 x0 x1 x2)), .val (.long (own_f0_3 x0 x1 x2)), .second, .val (.int ((own_f0_3 x0 x1 x2).toInt32)), .unset]) rfl k) ?_
        show own_Goes p e below s (own_F0 Z x0 x1 x2 n0 h0) room_1.cells room_1.slots (s₁.setTop (mkF m 59 #[.val (.int x0), .val (.int x1), .val (.int x2), .val (.long (own_f0_1 x0 x1 x2)), .second, .val (.int ((x1 &&& (2147483647 : Int32)) % (7 : Int32))), .val (.int (own_f0_2 x0 x1 x2)), .val (.long (own_f0_3 x0 x1 x2)), .second, .val (.int ((own_f0_3 x0 x1 x2).toInt32)), .unset] []))
        refine own_Goes.step (fun t k => XS.iload X0.here hx rfl (hb hby at_59) rfl k) ?_
        show own_Goes p e below s (own_F0 Z x0 x1 x2 n0 h0) room_1.cells room_1.slots (s₁.setTop (mkF m 61 #[.val (.int x0), .val (.int x1), .val (.int x2), .val (.long (own_f0_1 x0 x1 x2)), .second, .val (.int ((x1 &&& (2147483647 : Int32)) % (7 : Int32))), .val (.int (own_f0_2 x0 x1 x2)), .val (.long (own_f0_3 x0 x1 x2)), .second, .val (.int ((own_f0_3 x0 x1 x2).toInt32)), .unset] [(.int ((x1 &&& (2147483647 : Int32)) % (7 : Int32)))]))
        refine own_Goes.step (fun t k => XT.iconstV X0.here hx rfl (5 : Int32) (hb hby at_61) (by decide) k) ?_
        show own_Goes p e below s (own_F0 Z x0 x1 x2 n0 h0) room_1.cells room_1.slots (s₁.setTop (mkF m 62 #[.val (.int x0), .val (.int x1), .val (.int x2), .val (.long (own_f0_1 x0 x1 x2)), .second, .val (.int ((x1 &&& (2147483647 : Int32)) % (7 : Int32))), .val (.int (own_f0_2 x0 x1 x2)), .val (.long (own_f0_3 x0 x1 x2)), .second, .val (.int ((own_f0_3 x0 x1 x2).toInt32)), .unset] [(.int (5 : Int32)), (.int ((x1 &&& (2147483647 : Int32)) % (7 : Int32)))]))
        have J7 : own_Goes p e below s (own_F0 Z x0 x1 x2 n0 h0) room_1.cells room_1.slots (s₁.setTop (mkF m 88 #[.val (.int x0), .val (.int x1), .val (.int x2), .val (.long (own_f0_1 x0 x1 x2)), .second, .val (.int ((x1 &&& (2147483647 : Int32)) % (7 : Int32))), .val (.int (own_f0_2 x0 x1 x2)), .val (.long (own_f0_3 x0 x1 x2)), .second, .val (.int ((own_f0_3 x0 x1 x2).toInt32)), .val (.int (own_f0_4 x0 x1 x2))] [])) := by
          refine own_Goes.step (fun t k => XS.iload X0.here hx rfl (hb hby at_88) rfl k) ?_
          show own_Goes p e below s (own_F0 Z x0 x1 x2 n0 h0) room_1.cells room_1.slots (s₁.setTop (mkF m 90 #[.val (.int x0), .val (.int x1), .val (.int x2), .val (.long (own_f0_1 x0 x1 x2)), .second, .val (.int ((x1 &&& (2147483647 : Int32)) % (7 : Int32))), .val (.int (own_f0_2 x0 x1 x2)), .val (.long (own_f0_3 x0 x1 x2)), .second, .val (.int ((own_f0_3 x0 x1 x2).toInt32)), .val (.int (own_f0_4 x0 x1 x2))] [(.int ((own_f0_3 x0 x1 x2).toInt32))]))
          refine own_Goes.step (fun t k => XS.iload X0.here hx rfl (hb hby at_90) rfl k) ?_
          show own_Goes p e below s (own_F0 Z x0 x1 x2 n0 h0) room_1.cells room_1.slots (s₁.setTop (mkF m 92 #[.val (.int x0), .val (.int x1), .val (.int x2), .val (.long (own_f0_1 x0 x1 x2)), .second, .val (.int ((x1 &&& (2147483647 : Int32)) % (7 : Int32))), .val (.int (own_f0_2 x0 x1 x2)), .val (.long (own_f0_3 x0 x1 x2)), .second, .val (.int ((own_f0_3 x0 x1 x2).toInt32)), .val (.int (own_f0_4 x0 x1 x2))] [(.int (own_f0_2 x0 x1 x2)), (.int ((own_f0_3 x0 x1 x2).toInt32))]))
          obtain ⟨w5, T5, L5, q5, Y5, st5⟩ := own_stat X0 hx hZ e0 hown (hw _ (List.mem_of_getElem? (i := 4) rfl)) (hw _ (List.mem_of_getElem? (i := 5) rfl)) (hw _ (List.mem_of_getElem? (i := 6) rfl)) (hw _ (List.mem_of_getElem? (i := 7) rfl)) (by decide) (own_m1 l Z a0 hw [] ((own_f0_3 x0 x1 x2).toInt32) (own_f0_2 x0 x1 x2) h0 ) (by decide) (W := 0) (by decide) (by decide) (by decide) (g := (mkF m 92 #[.val (.int x0), .val (.int x1), .val (.int x2), .val (.long (own_f0_1 x0 x1 x2)), .second, .val (.int ((x1 &&& (2147483647 : Int32)) % (7 : Int32))), .val (.int (own_f0_2 x0 x1 x2)), .val (.long (own_f0_3 x0 x1 x2)), .second, .val (.int ((own_f0_3 x0 x1 x2).toInt32)), .val (.int (own_f0_4 x0 x1 x2))] [(.int (own_f0_2 x0 x1 x2)), (.int ((own_f0_3 x0 x1 x2).toInt32))])) rfl (by rw [hml]; rfl) (argsL := [(.int ((own_f0_3 x0 x1 x2).toInt32)), (.int (own_f0_2 x0 x1 x2))]) (rest := []) (lenOf pd_1 rfl) rfl (by show 2 * 0 + _ ≤ _; exact Nat.le_of_eq rfl) (hb hby at_92)
          obtain ⟨e5, X5⟩ := own_clean q5 Y5 rfl rfl
          obtain ⟨rfl, -, -⟩ := q5
          refine own_Goes.step st5 ?_
          show own_Goes p e below s (own_F0 Z x0 x1 x2 n0 h0) room_1.cells room_1.slots (T5.setTop (mkF m 95 #[.val (.int x0), .val (.int x1), .val (.int x2), .val (.long (own_f0_1 x0 x1 x2)), .second, .val (.int ((x1 &&& (2147483647 : Int32)) % (7 : Int32))), .val (.int (own_f0_2 x0 x1 x2)), .val (.long (own_f0_3 x0 x1 x2)), .second, .val (.int ((own_f0_3 x0 x1 x2).toInt32)), .val (.int (own_f0_4 x0 x1 x2))] [(.int (own_f1 ((own_f0_3 x0 x1 x2).toInt32) (own_f0_2 x0 x1 x2)))]))
          refine own_Goes.step (fun t k => XS.iload X5.here hx rfl (hb hby at_95) rfl k) ?_
          show own_Goes p e below s (own_F0 Z x0 x1 x2 n0 h0) room_1.cells room_1.slots (T5.setTop (mkF m 97 #[.val (.int x0), .val (.int x1), .val (.int x2), .val (.long (own_f0_1 x0 x1 x2)), .second, .val (.int ((x1 &&& (2147483647 : Int32)) % (7 : Int32))), .val (.int (own_f0_2 x0 x1 x2)), .val (.long (own_f0_3 x0 x1 x2)), .second, .val (.int ((own_f0_3 x0 x1 x2).toInt32)), .val (.int (own_f0_4 x0 x1 x2))] [(.int (own_f0_4 x0 x1 x2)), (.int (own_f1 ((own_f0_3 x0 x1 x2).toInt32) (own_f0_2 x0 x1 x2)))]))
          by_cases hc6 : (own_f1 ((own_f0_3 x0 x1 x2).toInt32) (own_f0_2 x0 x1 x2)) = (own_f0_4 x0 x1 x2)
          · refine own_Goes.step (fun t k => XS.icmpNo X5.here hx rfl (hb hby at_97) rfl (XT.ii_ne_f hc6) k) ?_
            show own_Goes p e below s (own_F0 Z x0 x1 x2 n0 h0) room_1.cells room_1.slots (T5.setTop (mkF m 100 #[.val (.int x0), .val (.int x1), .val (.int x2), .val (.long (own_f0_1 x0 x1 x2)), .second, .val (.int ((x1 &&& (2147483647 : Int32)) % (7 : Int32))), .val (.int (own_f0_2 x0 x1 x2)), .val (.long (own_f0_3 x0 x1 x2)), .second, .val (.int ((own_f0_3 x0 x1 x2).toInt32)), .val (.int (own_f0_4 x0 x1 x2))] []))
            refine own_Goes.step (fun t k => XT.iconstV X5.here hx rfl (1 : Int32) (hb hby at_100) (by decide) k) ?_
            show own_Goes p e below s (own_F0 Z x0 x1 x2 n0 h0) room_1.cells room_1.slots (T5.setTop (mkF m 101 #[.val (.int x0), .val (.int x1), .val (.int x2), .val (.long (own_f0_1 x0 x1 x2)), .second, .val (.int ((x1 &&& (2147483647 : Int32)) % (7 : Int32))), .val (.int (own_f0_2 x0 x1 x2)), .val (.long (own_f0_3 x0 x1 x2)), .second, .val (.int ((own_f0_3 x0 x1 x2).toInt32)), .val (.int (own_f0_4 x0 x1 x2))] [(.int (1 : Int32))]))
            refine own_Goes.step (fun t k => XS.goto X5.here hx rfl (pc0 := 101) (pc' := 105) rfl (hb hby at_101) (by decide) (by decide) k) ?_
            show own_Goes p e below s (own_F0 Z x0 x1 x2 n0 h0) room_1.cells room_1.slots (T5.setTop (mkF m 105 #[.val (.int x0), .val (.int x1), .val (.int x2), .val (.long (own_f0_1 x0 x1 x2)), .second, .val (.int ((x1 &&& (2147483647 : Int32)) % (7 : Int32))), .val (.int (own_f0_2 x0 x1 x2)), .val (.long (own_f0_3 x0 x1 x2)), .second, .val (.int ((own_f0_3 x0 x1 x2).toInt32)), .val (.int (own_f0_4 x0 x1 x2))] [(.int (1 : Int32))]))
            exact own_endN X5 hx Bd.notSynchronized (t := .boolean) Bd.returns (by simp) (hb hby at_105) ⟨(congrArg (fun z => some (Value.int z)) (show (1 : Int32) = own_f0 x0 x1 x2 from by simp only [own_f0, if_neg hc2, if_pos hc6])), N0⟩ (by decide) (by decide)
          · refine own_Goes.step (fun t k => XS.icmpYes X5.here hx rfl (pc0 := 97) (pc' := 104) rfl (hb hby at_97) rfl (XT.ii_ne_t hc6) (by decide) (by decide) k) ?_
            show own_Goes p e below s (own_F0 Z x0 x1 x2 n0 h0) room_1.cells room_1.slots (T5.setTop (mkF m 104 #[.val (.int x0), .val (.int x1), .val (.int x2), .val (.long (own_f0_1 x0 x1 x2)), .second, .val (.int ((x1 &&& (2147483647 : Int32)) % (7 : Int32))), .val (.int (own_f0_2 x0 x1 x2)), .val (.long (own_f0_3 x0 x1 x2)), .second, .val (.int ((own_f0_3 x0 x1 x2).toInt32)), .val (.int (own_f0_4 x0 x1 x2))] []))
            refine own_Goes.step (fun t k => XT.iconstV X5.here hx rfl (0 : Int32) (hb hby at_104) (by decide) k) ?_
            show own_Goes p e below s (own_F0 Z x0 x1 x2 n0 h0) room_1.cells room_1.slots (T5.setTop (mkF m 105 #[.val (.int x0), .val (.int x1), .val (.int x2), .val (.long (own_f0_1 x0 x1 x2)), .second, .val (.int ((x1 &&& (2147483647 : Int32)) % (7 : Int32))), .val (.int (own_f0_2 x0 x1 x2)), .val (.long (own_f0_3 x0 x1 x2)), .second, .val (.int ((own_f0_3 x0 x1 x2).toInt32)), .val (.int (own_f0_4 x0 x1 x2))] [(.int (0 : Int32))]))
            exact own_endN X5 hx Bd.notSynchronized (t := .boolean) Bd.returns (by simp) (hb hby at_105) ⟨(congrArg (fun z => some (Value.int z)) (show (0 : Int32) = own_f0 x0 x1 x2 from by simp only [own_f0, if_neg hc2, if_neg hc6])), N0⟩ (by decide) (by decide)
        by_cases hc3 : ((x1 &&& (2147483647 : Int32)) % (7 : Int32)) = (5 : Int32)
        · refine own_Goes.step (fun t k => XS.icmpNo X0.here hx rfl (hb hby at_62) rfl (XT.ii_ne_f hc3) k) ?_
          show own_Goes p e below s (own_F0 Z x0 x1 x2 n0 h0) room_1.cells room_1.slots (s₁.setTop (mkF m 65 #[.val (.int x0), .val (.int x1), .val (.int x2), .val (.long (own_f0_1 x0 x1 x2)), .second, .val (.int ((x1 &&& (2147483647 : Int32)) % (7 : Int32))), .val (.int (own_f0_2 x0 x1 x2)), .val (.long (own_f0_3 x0 x1 x2)), .second, .val (.int ((own_f0_3 x0 x1 x2).toInt32)), .unset] []))
          refine own_Goes.step (fun t k => XT.iconstV X0.here hx rfl (1 : Int32) (hb hby at_65) (by decide) k) ?_
          show own_Goes p e below s (own_F0 Z x0 x1 x2 n0 h0) room_1.cells room_1.slots (s₁.setTop (mkF m 66 #[.val (.int x0), .val (.int x1), .val (.int x2), .val (.long (own_f0_1 x0 x1 x2)), .second, .val (.int ((x1 &&& (2147483647 : Int32)) % (7 : Int32))), .val (.int (own_f0_2 x0 x1 x2)), .val (.long (own_f0_3 x0 x1 x2)), .second, .val (.int ((own_f0_3 x0 x1 x2).toInt32)), .unset] [(.int (1 : Int32))]))
          refine own_Goes.step (fun t k => XS.istore X0.here hx rfl (hb hby at_66) rfl (l' := #[.val (.int x0), .val (.int x1), .val (.int x2), .val (.long (own_f0_1 x0 x1 x2)), .second, .val (.int ((x1 &&& (2147483647 : Int32)) % (7 : Int32))), .val (.int (own_f0_2 x0 x1 x2)), .val (.long (own_f0_3 x0 x1 x2)), .second, .val (.int ((own_f0_3 x0 x1 x2).toInt32)), .val (.int (1 : Int32))]) rfl k) ?_
          show own_Goes p e below s (own_F0 Z x0 x1 x2 n0 h0) room_1.cells room_1.slots (s₁.setTop (mkF m 68 #[.val (.int x0), .val (.int x1), .val (.int x2), .val (.long (own_f0_1 x0 x1 x2)), .second, .val (.int ((x1 &&& (2147483647 : Int32)) % (7 : Int32))), .val (.int (own_f0_2 x0 x1 x2)), .val (.long (own_f0_3 x0 x1 x2)), .second, .val (.int ((own_f0_3 x0 x1 x2).toInt32)), .val (.int (1 : Int32))] []))
          refine own_Goes.step (fun t k => XS.goto X0.here hx rfl (pc0 := 68) (pc' := 88) rfl (hb hby at_68) (by decide) (by decide) k) ?_
          show own_Goes p e below s (own_F0 Z x0 x1 x2 n0 h0) room_1.cells room_1.slots (s₁.setTop (mkF m 88 #[.val (.int x0), .val (.int x1), .val (.int x2), .val (.long (own_f0_1 x0 x1 x2)), .second, .val (.int ((x1 &&& (2147483647 : Int32)) % (7 : Int32))), .val (.int (own_f0_2 x0 x1 x2)), .val (.long (own_f0_3 x0 x1 x2)), .second, .val (.int ((own_f0_3 x0 x1 x2).toInt32)), .val (.int (1 : Int32))] []))
          rw [show (own_f0_4 x0 x1 x2) = (1 : Int32) from by simp only [own_f0_4, if_pos hc3]] at J7
          exact J7
        · refine own_Goes.step (fun t k => XS.icmpYes X0.here hx rfl (pc0 := 62) (pc' := 71) rfl (hb hby at_62) rfl (XT.ii_ne_t hc3) (by decide) (by decide) k) ?_
          show own_Goes p e below s (own_F0 Z x0 x1 x2 n0 h0) room_1.cells room_1.slots (s₁.setTop (mkF m 71 #[.val (.int x0), .val (.int x1), .val (.int x2), .val (.long (own_f0_1 x0 x1 x2)), .second, .val (.int ((x1 &&& (2147483647 : Int32)) % (7 : Int32))), .val (.int (own_f0_2 x0 x1 x2)), .val (.long (own_f0_3 x0 x1 x2)), .second, .val (.int ((own_f0_3 x0 x1 x2).toInt32)), .unset] []))
          refine own_Goes.step (fun t k => XS.iload X0.here hx rfl (hb hby at_71) rfl k) ?_
          show own_Goes p e below s (own_F0 Z x0 x1 x2 n0 h0) room_1.cells room_1.slots (s₁.setTop (mkF m 73 #[.val (.int x0), .val (.int x1), .val (.int x2), .val (.long (own_f0_1 x0 x1 x2)), .second, .val (.int ((x1 &&& (2147483647 : Int32)) % (7 : Int32))), .val (.int (own_f0_2 x0 x1 x2)), .val (.long (own_f0_3 x0 x1 x2)), .second, .val (.int ((own_f0_3 x0 x1 x2).toInt32)), .unset] [(.int ((x1 &&& (2147483647 : Int32)) % (7 : Int32)))]))
          refine own_Goes.step (fun t k => XT.bipushV X0.here hx rfl (6 : Int32) (hb hby at_73) (by decide) k) ?_
          show own_Goes p e below s (own_F0 Z x0 x1 x2 n0 h0) room_1.cells room_1.slots (s₁.setTop (mkF m 75 #[.val (.int x0), .val (.int x1), .val (.int x2), .val (.long (own_f0_1 x0 x1 x2)), .second, .val (.int ((x1 &&& (2147483647 : Int32)) % (7 : Int32))), .val (.int (own_f0_2 x0 x1 x2)), .val (.long (own_f0_3 x0 x1 x2)), .second, .val (.int ((own_f0_3 x0 x1 x2).toInt32)), .unset] [(.int (6 : Int32)), (.int ((x1 &&& (2147483647 : Int32)) % (7 : Int32)))]))
          by_cases hc4 : ((x1 &&& (2147483647 : Int32)) % (7 : Int32)) = (6 : Int32)
          · refine own_Goes.step (fun t k => XS.icmpNo X0.here hx rfl (hb hby at_75) rfl (XT.ii_ne_f hc4) k) ?_
            show own_Goes p e below s (own_F0 Z x0 x1 x2 n0 h0) room_1.cells room_1.slots (s₁.setTop (mkF m 78 #[.val (.int x0), .val (.int x1), .val (.int x2), .val (.long (own_f0_1 x0 x1 x2)), .second, .val (.int ((x1 &&& (2147483647 : Int32)) % (7 : Int32))), .val (.int (own_f0_2 x0 x1 x2)), .val (.long (own_f0_3 x0 x1 x2)), .second, .val (.int ((own_f0_3 x0 x1 x2).toInt32)), .unset] []))
            refine own_Goes.step (fun t k => XS.iload X0.here hx rfl (hb hby at_78) rfl k) ?_
            show own_Goes p e below s (own_F0 Z x0 x1 x2 n0 h0) room_1.cells room_1.slots (s₁.setTop (mkF m 80 #[.val (.int x0), .val (.int x1), .val (.int x2), .val (.long (own_f0_1 x0 x1 x2)), .second, .val (.int ((x1 &&& (2147483647 : Int32)) % (7 : Int32))), .val (.int (own_f0_2 x0 x1 x2)), .val (.long (own_f0_3 x0 x1 x2)), .second, .val (.int ((own_f0_3 x0 x1 x2).toInt32)), .unset] [(.int (own_f0_2 x0 x1 x2))]))
            refine own_Goes.step (fun t k => XS.istore X0.here hx rfl (hb hby at_80) rfl (l' := #[.val (.int x0), .val (.int x1), .val (.int x2), .val (.long (own_f0_1 x0 x1 x2)), .second, .val (.int ((x1 &&& (2147483647 : Int32)) % (7 : Int32))), .val (.int (own_f0_2 x0 x1 x2)), .val (.long (own_f0_3 x0 x1 x2)), .second, .val (.int ((own_f0_3 x0 x1 x2).toInt32)), .val (.int (own_f0_2 x0 x1 x2))]) rfl k) ?_
            show own_Goes p e below s (own_F0 Z x0 x1 x2 n0 h0) room_1.cells room_1.slots (s₁.setTop (mkF m 82 #[.val (.int x0), .val (.int x1), .val (.int x2), .val (.long (own_f0_1 x0 x1 x2)), .second, .val (.int ((x1 &&& (2147483647 : Int32)) % (7 : Int32))), .val (.int (own_f0_2 x0 x1 x2)), .val (.long (own_f0_3 x0 x1 x2)), .second, .val (.int ((own_f0_3 x0 x1 x2).toInt32)), .val (.int (own_f0_2 x0 x1 x2))] []))
            refine own_Goes.step (fun t k => XS.goto X0.here hx rfl (pc0 := 82) (pc' := 88) rfl (hb hby at_82) (by decide) (by decide) k) ?_
            show own_Goes p e below s (own_F0 Z x0 x1 x2 n0 h0) room_1.cells room_1.slots (s₁.setTop (mkF m 88 #[.val (.int x0), .val (.int x1), .val (.int x2), .val (.long (own_f0_1 x0 x1 x2)), .second, .val (.int ((x1 &&& (2147483647 : Int32)) % (7 : Int32))), .val (.int (own_f0_2 x0 x1 x2)), .val (.long (own_f0_3 x0 x1 x2)), .second, .val (.int ((own_f0_3 x0 x1 x2).toInt32)), .val (.int (own_f0_2 x0 x1 x2))] []))
            rw [show (own_f0_4 x0 x1 x2) = (own_f0_2 x0 x1 x2) from by simp only [own_f0_4, if_neg hc3, if_pos hc4]] at J7
            exact J7
          · refine own_Goes.step (fun t k => XS.icmpYes X0.here hx rfl (pc0 := 75) (pc' := 85) rfl (hb hby at_75) rfl (XT.ii_ne_t hc4) (by decide) (by decide) k) ?_
            show own_Goes p e below s (own_F0 Z x0 x1 x2 n0 h0) room_1.cells room_1.slots (s₁.setTop (mkF m 85 #[.val (.int x0), .val (.int x1), .val (.int x2), .val (.long (own_f0_1 x0 x1 x2)), .second, .val (.int ((x1 &&& (2147483647 : Int32)) % (7 : Int32))), .val (.int (own_f0_2 x0 x1 x2)), .val (.long (own_f0_3 x0 x1 x2)), .second, .val (.int ((own_f0_3 x0 x1 x2).toInt32)), .unset] []))
            refine own_Goes.step (fun t k => XT.iconstV X0.here hx rfl (0 : Int32) (hb hby at_85) (by decide) k) ?_
            show own_Goes p e below s (own_F0 Z x0 x1 x2 n0 h0) room_1.cells room_1.slots (s₁.setTop (mkF m 86 #[.val (.int x0), .val (.int x1), .val (.int x2), .val (.long (own_f0_1 x0 x1 x2)), .second, .val (.int ((x1 &&& (2147483647 : Int32)) % (7 : Int32))), .val (.int (own_f0_2 x0 x1 x2)), .val (.long (own_f0_3 x0 x1 x2)), .second, .val (.int ((own_f0_3 x0 x1 x2).toInt32)), .unset] [(.int (0 : Int32))]))
            refine own_Goes.step (fun t k => XS.istore X0.here hx rfl (hb hby at_86) rfl (l' := #[.val (.int x0), .val (.int x1), .val (.int x2), .val (.long (own_f0_1 x0 x1 x2)), .second, .val (.int ((x1 &&& (2147483647 : Int32)) % (7 : Int32))), .val (.int (own_f0_2 x0 x1 x2)), .val (.long (own_f0_3 x0 x1 x2)), .second, .val (.int ((own_f0_3 x0 x1 x2).toInt32)), .val (.int (0 : Int32))]) rfl k) ?_
            show own_Goes p e below s (own_F0 Z x0 x1 x2 n0 h0) room_1.cells room_1.slots (s₁.setTop (mkF m 88 #[.val (.int x0), .val (.int x1), .val (.int x2), .val (.long (own_f0_1 x0 x1 x2)), .second, .val (.int ((x1 &&& (2147483647 : Int32)) % (7 : Int32))), .val (.int (own_f0_2 x0 x1 x2)), .val (.long (own_f0_3 x0 x1 x2)), .second, .val (.int ((own_f0_3 x0 x1 x2).toInt32)), .val (.int (0 : Int32))] []))
            rw [show (own_f0_4 x0 x1 x2) = (0 : Int32) from by simp only [own_f0_4, if_neg hc3, if_neg hc4]] at J7
            exact J7
    by_cases hc1 : (x2 &&& (1 : Int32)) = (0 : Int32)
    · refine own_Goes.step (fun t k => XS.ifYes X0.here hx rfl (pc0 := 22) (pc' := 29) rfl (hb hby at_22) rfl (XT.i0_eq_t hc1) (by decide) (by decide) k) ?_
      show own_Goes p e below s (own_F0 Z x0 x1 x2 n0 h0) room_1.cells room_1.slots (s₁.setTop (mkF m 29 #[.val (.int x0), .val (.int x1), .val (.int x2), .val (.long (own_f0_1 x0 x1 x2)), .second, .val (.int ((x1 &&& (2147483647 : Int32)) % (7 : Int32))), .unset, .unset, .unset, .unset, .unset] []))
      refine own_Goes.step (fun t k => XT.iconstV X0.here hx rfl (0 : Int32) (hb hby at_29) (by decide) k) ?_
      show own_Goes p e below s (own_F0 Z x0 x1 x2 n0 h0) room_1.cells room_1.slots (s₁.setTop (mkF m 30 #[.val (.int x0), .val (.int x1), .val (.int x2), .val (.long (own_f0_1 x0 x1 x2)), .second, .val (.int ((x1 &&& (2147483647 : Int32)) % (7 : Int32))), .unset, .unset, .unset, .unset, .unset] [(.int (0 : Int32))]))
      rw [show (own_f0_2 x0 x1 x2) = (0 : Int32) from by simp only [own_f0_2, if_pos hc1]] at J8
      exact J8
    · refine own_Goes.step (fun t k => XS.ifNo X0.here hx rfl (hb hby at_22) rfl (XT.i0_eq_f hc1) k) ?_
      show own_Goes p e below s (own_F0 Z x0 x1 x2 n0 h0) room_1.cells room_1.slots (s₁.setTop (mkF m 25 #[.val (.int x0), .val (.int x1), .val (.int x2), .val (.long (own_f0_1 x0 x1 x2)), .second, .val (.int ((x1 &&& (2147483647 : Int32)) % (7 : Int32))), .unset, .unset, .unset, .unset, .unset] []))
      refine own_Goes.step (fun t k => XT.iconstV X0.here hx rfl (1 : Int32) (hb hby at_25) (by decide) k) ?_
      show own_Goes p e below s (own_F0 Z x0 x1 x2 n0 h0) room_1.cells room_1.slots (s₁.setTop (mkF m 26 #[.val (.int x0), .val (.int x1), .val (.int x2), .val (.long (own_f0_1 x0 x1 x2)), .second, .val (.int ((x1 &&& (2147483647 : Int32)) % (7 : Int32))), .unset, .unset, .unset, .unset, .unset] [(.int (1 : Int32))]))
      refine own_Goes.step (fun t k => XS.goto X0.here hx rfl (pc0 := 26) (pc' := 30) rfl (hb hby at_26) (by decide) (by decide) k) ?_
      show own_Goes p e below s (own_F0 Z x0 x1 x2 n0 h0) room_1.cells room_1.slots (s₁.setTop (mkF m 30 #[.val (.int x0), .val (.int x1), .val (.int x2), .val (.long (own_f0_1 x0 x1 x2)), .second, .val (.int ((x1 &&& (2147483647 : Int32)) % (7 : Int32))), .unset, .unset, .unset, .unset, .unset] [(.int (1 : Int32))]))
      rw [show (own_f0_2 x0 x1 x2) = (1 : Int32) from by simp only [own_f0_2, if_neg hc1]] at J8
      exact J8
  obtain ⟨t2, o2, q1, q2, q3, q4⟩ := hgo
  exact ⟨t2, o2, castTop (ef_0 m x0 x1 x2) q1, q2, q3, q4⟩
theorem own_law (x0 x1 x2 : Int32) : own_f0 x0 x1 x2 = 1 := by
  have a1 : (x0 &&& (2147483647 : Int32)).toInt = x0.toInt % 2 ^ 31 := Jvm.Kit.i32_mask x0 2147483647 (k := 31) (by decide) (by decide)
  have a2 : (x1 &&& (2147483647 : Int32)).toInt = x1.toInt % 2 ^ 31 := Jvm.Kit.i32_mask x1 2147483647 (k := 31) (by decide) (by decide)
  have b2 : ((x1 &&& (2147483647 : Int32)) % (7 : Int32)).toInt = (x1 &&& (2147483647 : Int32)).toInt % 7 := Jvm.Kit.i32_rem_nonneg (by omega)
  have w1 : (own_f0_1 x0 x1 x2).toInt = (x0 &&& (2147483647 : Int32)).toInt % 306783379 := by
    unfold own_f0_1
    rw [Int64.toInt_mod, Jvm.Kit.i64_of_i32]
    exact Int.tmod_eq_emod_of_nonneg (by omega)
  have k7 : (7 : Int64).toInt = 7 := rfl
  have d1 : (own_f0_3 x0 x1 x2).toInt = 7 * (own_f0_1 x0 x1 x2).toInt + ((x1 &&& (2147483647 : Int32)) % (7 : Int32)).toInt := by
    unfold own_f0_3
    have m : ((7 : Int64) * own_f0_1 x0 x1 x2).toInt = 7 * (own_f0_1 x0 x1 x2).toInt := by
      rw [Jvm.Kit.i64_mul (by rw [k7]; omega) (by rw [k7]; omega), k7]
    rw [Jvm.Kit.i64_add (by rw [m, Jvm.Kit.i64_of_i32]; omega) (by rw [m, Jvm.Kit.i64_of_i32]; omega), m, Jvm.Kit.i64_of_i32]
  unfold own_f0
  by_cases hd : (2147483647 : Int64) < own_f0_3 x0 x1 x2
  · rw [if_pos hd]
  rw [if_neg hd]
  have hd' : (own_f0_3 x0 x1 x2).toInt ≤ 2147483647 := by
    rw [own_lt64] at hd
    have : (2147483647 : Int64).toInt = 2147483647 := rfl
    omega
  have n1 : (own_f0_3 x0 x1 x2).toInt32.toInt = (own_f0_3 x0 x1 x2).toInt := Jvm.Kit.i32_of_i64 (by omega) (by omega)
  have r1 : (own_f0_3 x0 x1 x2).toInt32 % (7 : Int32) = (x1 &&& (2147483647 : Int32)) % (7 : Int32) := by
    have k7 : (7 : Int32).toInt = 7 := rfl
    rw [own_eq32, Jvm.Kit.i32_rem_nonneg (by omega), n1, d1, k7]
    omega
  have key : own_f1 (own_f0_3 x0 x1 x2).toInt32 (own_f0_2 x0 x1 x2) = own_f0_4 x0 x1 x2 := by
    unfold own_f1 own_f0_4
    rw [r1]
    by_cases h5 : (x1 &&& (2147483647 : Int32)) % (7 : Int32) = 5
    · rw [if_pos h5, if_pos h5]
    · rw [if_neg h5, if_neg h5]
      by_cases h6 : (x1 &&& (2147483647 : Int32)) % (7 : Int32) = 6
      · rw [if_pos h6, if_pos h6]
        unfold own_f0_2
        by_cases h0 : x2 &&& (1 : Int32) = 0
        · rw [if_pos h0]; decide
        · rw [if_neg h0]; decide
      · rw [if_neg h6, if_neg h6]
  rw [if_pos key]
set_option maxRecDepth 65536 in
set_option maxHeartbeats 40000000 in
theorem comes_1 {Post : Tables → Env → Array Value → State → Outcome → State → Prop} (hpost : ∀ tb e args s v u, (limb_1_1.after args s (.returned v) u = true ∧ limb_1_2.after args s (.returned v) u = true ∧ True) → FrameEnd s (.returned v) u (Jvm.fieldLocs frame_1_writes args s ++ Jvm.arrayLocs frame_1_arrays args s ++ Jvm.staticLocs frame_1_statics s) 0 0 → Post tb e args s (.returned v) u) :
    ArmFor flags0 classFile x code maxLocals ret World_1 tables_1 room_1 Calls_1 rest_1 Pre_1 Post := by
  intro l hfl _ _ p e ha hc hk s m args below hf hA hF happ hP
  obtain ⟨hcalls, hrest, hpre⟩ := hP
  obtain ⟨-, -, -, hnamed, -, -, -, hat⟩ := (Spec.applies_iff hf).mp happ
  obtain ⟨hg, hn⟩ := and_e (Cond.before_iff.mp (show (Jvm.Cond.and given_1 narrow_1).before args s = true from hpre))
  obtain ⟨hcount, hr0⟩ := and_e hg
  obtain ⟨w0, w1, w2, rfl⟩ : ∃ w0 w1 w2 : Value, args = #[w0, w1, w2] := by
    have hs : args.size = 3 := by simpa [Cond.value, given_1] using hcount
    obtain ⟨L⟩ := args
    match L, hs with
    | [w0, w1, w2], _ => exact ⟨w0, w1, w2, rfl⟩
  have hw := fun d (hd : d ∈ tables_1) => atoms_spec (ws := Jvm.Cond.code x code maxLocals ret :: tables_1) hat d (List.mem_cons_of_mem _ hd)
  obtain ⟨ha0, hr1⟩ := and_e hr0
  obtain ⟨i0, ev0⟩ := is_v ha0
  obtain rfl : w0 = (.int i0) := Option.some.inj ev0
  obtain ⟨ha1, hr2⟩ := and_e hr1
  obtain ⟨i1, ev1⟩ := is_v ha1
  obtain rfl : w1 = (.int i1) := Option.some.inj ev1
  obtain ⟨i2, ev2⟩ := is_v hr2
  obtain rfl : w2 = (.int i2) := Option.some.inj ev2
  obtain ⟨n, o, h1, h2, h3, _, L, rfl, ⟨rfl, N⟩, hq⟩ := own_m0 l s _ hw tables_1 i0 i1 i2 s.heap.size s.heap (Nat.le_refl _) p e ha hc hk s m _ below hf ((Spec.applies_iff_loose hf).mp happ).1 ⟨rfl, State.Warmed39.refl s, rfl⟩ trivial
  rw [own_law i0 i1 i2] at h3 hq
  refine ⟨n, _, h1, h2, h3, hpost _ _ _ _ _ _ ⟨Cond.after_iff.mpr rfl, Cond.after_iff.mpr (eq_i res_at (Term.int_eval (1)) rfl), trivial⟩ ⟨hq.1, hq.2.1, (hq.2.2.sift fun y hy => Or.inr (N y hy)).mono (by decide) (by decide)⟩⟩
theorem main_1_1 : Claimed_1_1 := comes_1 fun _ _ _ _ _ _ h hF => ⟨h.1, hF⟩
theorem main_1_2 : Claimed_1_2 := comes_1 fun _ _ _ _ _ _ h hF => ⟨h.2.1, hF⟩
end Jvm.Pilot.@@N@@
namespace Jvm.Pilot.@@N@@
open Jvm Jvm.ClassFile Sem Op Lib Jvm.Free Jvm.Stand Jvm.Pilot.@@N@@.Jvm.D
/-! MADE BY PROGRAM (witnessworld.py) out of the Statement's table words and the real class files: 9 classes; the members and pool entries that the words name. The judged class is class 1, her method 1. -/
namespace start1
open Jvm.ClassFile
def u (s : String) : CpInfo := .utf8 (stringToUtf16 s)
/-- a pool by its gaps: so many unusable entries, then the entry; so many at the end -/
def gap : Nat → List CpInfo → List CpInfo
  | 0, r => r
  | n + 1, r => .unusable :: gap n r
def poolList (es : List (Nat × CpInfo)) (last : Nat) : List CpInfo := es.foldr (fun e r => gap e.1 (e.2 :: r)) (gap last [])
def pool (es : List (Nat × CpInfo)) (last : Nat) : Array CpInfo := ⟨poolList es last⟩
def fileOf (pool : Array CpInfo) (this : Nat) (attrs : Array Attribute := #[]) (ms : Array MethodInfo := #[]) (fl : Nat := 33) (sup : Nat := 0) (ifs : Array Nat := #[]) (fds : Array FieldInfo := #[]) : ClassFile where
  minorVersion := 0
  majorVersion := 65
  constantPool := pool
  accessFlags := fl
  thisClass := this
  superClass := sup
  interfaces := ifs
  fields := fds
  methods := ms
  attributes := attrs
def plain (name : String) (sup : Option ClassId) : Class where
  name := name
  kind := .ordinary
  loader := none
  accessFlags := 33
  super := sup
  interfaces := #[]
  cf := none
  fields := #[]
  methods := #[]
  instanceTypes := #[]
  staticTypes := #[]
  resolved := #[]
  callSites := []
  init := .initialized
  statics := none
  mirror := none

def pool0 : Array CpInfo := pool [(5, u "<init>"), (0, u "()V"), (1, .class_ 10), (1, u "java/lang/Object")] 113

def k0m0 : Method := { name := "<init>", desc := "()V", sig := { parameters := [], returnType := none }, accessFlags := 1, code := none }
/-- java/lang/Object -/
def k0 : Class := { plain "java/lang/Object" none with
  accessFlags := 33
  interfaces := #[]
  cf := some (fileOf pool0 8 #[] #[{ accessFlags := 1, nameIndex := 5, descriptorIndex := 6, attributes := #[] }] 33 0 #[] #[])
  fields := #[]
  methods := #[k0m0]
  instanceTypes := #[]
  staticTypes := #[]
  resolved := Array.replicate 124 none
  statics := none }

def pool1 : Array CpInfo := pool [(2, .class_ 4), (1, u "java/lang/Object"), (0, u "<init>"), (0, u "()V"), (0, .integer 2147483647), (0, .long 306783379), (1, .long 7), (3, .long 2147483647), (1, .methodref 17 18), (0, .class_ 19), (0, .nameAndType 20 21), (0, u "com/example/shiftweave/shiftweave/ContractTables"), (0, u "countsWeekend"), (0, u "(IZ)Z"), (0, .class_ 23), (0, u "com/example/shiftweave/shiftweave/ContractTablesCountsWeekendPinLaw"), (2, u "law"), (0, u "(III)Z")] 3

def k1m0 : Method := { name := "<init>", desc := "()V", sig := { parameters := [], returnType := none }, accessFlags := 1, code := none }
def k1c1 : Code := { maxStack := 4, maxLocals := 11, code := code, exceptionTable := #[], attributes := #[] }
def k1m1 : Method := { name := "law", desc := "(III)Z", sig := { parameters := [.int, .int, .int], returnType := some .boolean }, accessFlags := 9, code := some k1c1 }
/-- com/example/shiftweave/shiftweave/ContractTablesCountsWeekendPinLaw -/
def k1 : Class := { plain "com/example/shiftweave/shiftweave/ContractTablesCountsWeekendPinLaw" (some 0) with
  accessFlags := 49
  interfaces := #[]
  cf := some (fileOf pool1 22 #[] #[{ accessFlags := 1, nameIndex := 5, descriptorIndex := 6, attributes := #[] }, { accessFlags := 9, nameIndex := 26, descriptorIndex := 27, attributes := #[] }] 49 2 #[] #[])
  fields := #[]
  methods := #[k1m0, k1m1]
  instanceTypes := #[]
  staticTypes := #[]
  resolved := Array.replicate 31 none
  statics := none }

def pool2 : Array CpInfo := pool [(2, .class_ 4), (1, u "java/lang/Object"), (6, u "days"), (2, .class_ 16), (1, u "com/example/shiftweave/shiftweave/ContractTables"), (0, u "I"), (2, u "shifts"), (0, u "[I"), (22, u "units"), (12, u "longest"), (12, u "maxUnits"), (5, u "minUnits"), (2, u "dayOff"), (0, u "[Z"), (27, u "workableBefore"), (5, u "offCodes"), (2, u "codesPerShift"), (5, u "codes"), (2, u "start"), (10, u "step"), (0, u "[[I"), (38, u "kindCodes"), (2, u "kindStep"), (2, u "kindOf"), (2, u "positionOf"), (6, u "limits"), (82, u "DAYS_PER_WEEK"), (2, u "SATURDAY"), (1, u "SUNDAY"), (1, u "WEEKENDS"), (17, u "countsWeekend"), (0, u "(IZ)Z")] 36

def k2c0 : Code := { maxStack := 2, maxLocals := 3, code := prog_16_method_30_code, exceptionTable := #[], attributes := #[] }
def k2m0 : Method := { name := "countsWeekend", desc := "(IZ)Z", sig := { parameters := [.int, .boolean], returnType := some .boolean }, accessFlags := 8, code := some k2c0 }
/-- com/example/shiftweave/shiftweave/ContractTables -/
def k2 : Class := { plain "com/example/shiftweave/shiftweave/ContractTables" (some 0) with
  accessFlags := 48
  interfaces := #[]
  cf := some (fileOf pool2 14 #[] #[{ accessFlags := 8, nameIndex := 301, descriptorIndex := 302, attributes := #[] }] 48 2 #[] #[{ accessFlags := 24, nameIndex := 276, descriptorIndex := 17, attributes := #[] }, { accessFlags := 24, nameIndex := 279, descriptorIndex := 17, attributes := #[] }, { accessFlags := 24, nameIndex := 281, descriptorIndex := 17, attributes := #[] }, { accessFlags := 24, nameIndex := 283, descriptorIndex := 17, attributes := #[] }, { accessFlags := 18, nameIndex := 11, descriptorIndex := 17, attributes := #[] }, { accessFlags := 18, nameIndex := 20, descriptorIndex := 21, attributes := #[] }, { accessFlags := 18, nameIndex := 44, descriptorIndex := 21, attributes := #[] }, { accessFlags := 18, nameIndex := 57, descriptorIndex := 17, attributes := #[] }, { accessFlags := 18, nameIndex := 79, descriptorIndex := 80, attributes := #[] }, { accessFlags := 18, nameIndex := 108, descriptorIndex := 21, attributes := #[] }, { accessFlags := 18, nameIndex := 76, descriptorIndex := 17, attributes := #[] }, { accessFlags := 18, nameIndex := 70, descriptorIndex := 17, attributes := #[] }, { accessFlags := 18, nameIndex := 114, descriptorIndex := 17, attributes := #[] }, { accessFlags := 18, nameIndex := 117, descriptorIndex := 17, attributes := #[] }, { accessFlags := 18, nameIndex := 123, descriptorIndex := 17, attributes := #[] }, { accessFlags := 18, nameIndex := 126, descriptorIndex := 17, attributes := #[] }, { accessFlags := 18, nameIndex := 137, descriptorIndex := 138, attributes := #[] }, { accessFlags := 18, nameIndex := 177, descriptorIndex := 17, attributes := #[] }, { accessFlags := 18, nameIndex := 183, descriptorIndex := 21, attributes := #[] }, { accessFlags := 18, nameIndex := 180, descriptorIndex := 138, attributes := #[] }, { accessFlags := 18, nameIndex := 186, descriptorIndex := 21, attributes := #[] }, { accessFlags := 18, nameIndex := 193, descriptorIndex := 21, attributes := #[] }])
  fields := #[{ name := "DAYS_PER_WEEK", type := .int, accessFlags := 24, slot := 0, constantValue := 0 }, { name := "SATURDAY", type := .int, accessFlags := 24, slot := 1, constantValue := 0 }, { name := "SUNDAY", type := .int, accessFlags := 24, slot := 2, constantValue := 0 }, { name := "WEEKENDS", type := .int, accessFlags := 24, slot := 3, constantValue := 0 }, { name := "days", type := .int, accessFlags := 18, slot := 0, constantValue := 0 }, { name := "shifts", type := (.array .int), accessFlags := 18, slot := 1, constantValue := 0 }, { name := "units", type := (.array .int), accessFlags := 18, slot := 2, constantValue := 0 }, { name := "longest", type := .int, accessFlags := 18, slot := 3, constantValue := 0 }, { name := "dayOff", type := (.array .boolean), accessFlags := 18, slot := 4, constantValue := 0 }, { name := "workableBefore", type := (.array .int), accessFlags := 18, slot := 5, constantValue := 0 }, { name := "minUnits", type := .int, accessFlags := 18, slot := 6, constantValue := 0 }, { name := "maxUnits", type := .int, accessFlags := 18, slot := 7, constantValue := 0 }, { name := "offCodes", type := .int, accessFlags := 18, slot := 8, constantValue := 0 }, { name := "codesPerShift", type := .int, accessFlags := 18, slot := 9, constantValue := 0 }, { name := "codes", type := .int, accessFlags := 18, slot := 10, constantValue := 0 }, { name := "start", type := .int, accessFlags := 18, slot := 11, constantValue := 0 }, { name := "step", type := (.array (.array .int)), accessFlags := 18, slot := 12, constantValue := 0 }, { name := "kindCodes", type := .int, accessFlags := 18, slot := 13, constantValue := 0 }, { name := "kindOf", type := (.array .int), accessFlags := 18, slot := 14, constantValue := 0 }, { name := "kindStep", type := (.array (.array .int)), accessFlags := 18, slot := 15, constantValue := 0 }, { name := "positionOf", type := (.array .int), accessFlags := 18, slot := 16, constantValue := 0 }, { name := "limits", type := (.array .int), accessFlags := 18, slot := 17, constantValue := 0 }]
  methods := #[k2m0]
  instanceTypes := #[.int, (.array .int), (.array .int), .int, (.array .boolean), (.array .int), .int, .int, .int, .int, .int, .int, (.array (.array .int)), .int, (.array .int), (.array (.array .int)), (.array .int), (.array .int)]
  staticTypes := #[.int, .int, .int, .int]
  resolved := Array.replicate 339 none
  statics := none }

def pool3 : Array CpInfo := pool [(1, u "java/lang/Cloneable"), (0, .class_ 1), (0, u "java/lang/Object"), (0, .class_ 3)] 3

/-- java/lang/Cloneable -/
def k3 : Class := { plain "java/lang/Cloneable" (some 0) with
  accessFlags := 1537
  interfaces := #[]
  cf := some (fileOf pool3 2 #[] #[] 1537 4 #[] #[])
  fields := #[]
  methods := #[]
  instanceTypes := #[]
  staticTypes := #[]
  resolved := Array.replicate 8 none
  statics := none }

def pool4 : Array CpInfo := pool [(1, u "java/io/Serializable"), (0, .class_ 1), (0, u "java/lang/Object"), (0, .class_ 3)] 3

/-- java/io/Serializable -/
def k4 : Class := { plain "java/io/Serializable" (some 0) with
  accessFlags := 1537
  interfaces := #[]
  cf := some (fileOf pool4 2 #[] #[] 1537 4 #[] #[])
  fields := #[]
  methods := #[]
  instanceTypes := #[]
  staticTypes := #[]
  resolved := Array.replicate 8 none
  statics := none }

/-- the primitive byte -/
def k5 : Class := { plain "byte" none with kind := .primitive 'B', accessFlags := 0x411 }
/-- [B -/
def k6 : Class := { plain "[B" (some 0) with kind := .array 5 .byte, interfaces := #[3, 4], accessFlags := 1041 }

/-- the primitive int -/
def k7 : Class := { plain "int" none with kind := .primitive 'I', accessFlags := 0x411 }
/-- [I -/
def k8 : Class := { plain "[I" (some 0) with kind := .array 7 .int, interfaces := #[3, 4], accessFlags := 1041 }

def heap : Heap := #[]
def classes : Array Class := #[k0, k1, k2, k3, k4, k5, k6, k7, k8]
def interned : List (Array UInt16 × Addr) := []
def slotsUsed : Nat := 0
def theMethod : MethodId := ⟨1, 1⟩
def args0 : Array Value := #[.int 3, .int 5, .int 1]
def aboutOver (below : List Frame) : State where
  vm := { classes := classes, interned := interned.toArray }
  heap := heap
  slotsUsed := slotsUsed
  threads := #[{ frames := .invoking theMethod args0 :: below }]
def below0 : List Frame := [.native { method := ⟨0, 0⟩, args := #[] }]
def about1 : State := aboutOver below0
def p0 : Program := .bare "" "" ""
def e0 : Env := launch0.env 0 0 0
theorem w_frames : about1.frames = Frame.invoking theMethod args0 :: below0 := rfl
set_option maxRecDepth 65536 in
theorem w_args : argsFit about1.vm theMethod args0 = true := by decide +kernel
set_option maxRecDepth 65536 in
theorem w_heap : heapFits about1 = true := by decide +kernel
set_option maxRecDepth 65536 in
theorem w_runnable : about1.curStatus? = some .runnable := by decide +kernel
set_option maxRecDepth 65536 in
theorem w_alone : about1.alone = true := by decide +kernel
set_option maxRecDepth 65536 in
theorem w_named : about1.methodNamed? x = some theMethod := by decide +kernel
set_option maxRecDepth 65536 in
theorem w_hears : about1.hears theMethod below0 = true := by decide +kernel
set_option maxRecDepth 65536 in
theorem w_ripe : about1.ripe theMethod args0 below0 = true := by decide +kernel
theorem w_running : about1.status = .running := rfl
set_option maxRecDepth 65536 in
theorem w_room : about1.hasRoom e0.platform room_1 = true :=
  launch0.hasRoom_least _ room_1 (by decide +kernel) (by decide +kernel) (by decide +kernel) (by decide +kernel) (by decide +kernel) (by decide +kernel)
theorem allAtoms_all (ts : List Jvm.Cond) (a : Array Jvm.Value) (st : Jvm.State) : (allAtoms ts).before a st = ts.all (fun c => c.before a st) := by
  induction ts with
  | nil => rfl
  | cons c t ih =>
    show (Jvm.Cond.and c (allAtoms t)).before a st = _
    rw [Jvm.Cond.before_and, ih, List.all_cons]
def words1 : List Jvm.Cond := Jvm.Cond.code x code maxLocals ret :: tables_1
/-- a 'code' word, met by the world's own term for the bytes: nothing is compared byte by byte -/
theorem code_word {y : MethodName} {bytes : ByteArray} {mx : Nat} {rt : Option FieldType} {a : Array Value} {s : State} {m : MethodId} {meth : Method} {c : Code} (h1 : s.methodNamed? y = some m) (h2 : s.vm.method? m = some meth) (h3 : meth.code = some c) (h4 : c.code = bytes)
    (h5 : (c.maxLocals == mx && c.exceptionTable.isEmpty && decide (c.maxStack ≤ mostOperands) && decide (meth.sig.returnType = rt) && !meth.locks && decide (parseMethodDescriptor y.desc = some meth.sig)) = true) : (Jvm.Cond.code y bytes mx rt).before a s = true := by
  simp only [Bool.and_eq_true, beq_iff_eq, Bool.not_eq_true', decide_eq_true_eq] at h5
  obtain ⟨⟨⟨⟨⟨g1, g2⟩, g3⟩, g4⟩, g5⟩, g6⟩ := h5
  simp [Cond.before, Cond.holds, Cond.value, h1, h2, h3, h4, g1, g2, g3, g4, g5, g6]
def isCode : Jvm.Cond → Bool
  | .code _ _ _ _ => true
  | _ => false
theorem all_split {L : List Jvm.Cond} {P : Jvm.Cond → Bool} (h1 : L.all (fun c => isCode c || P c) = true) (h2 : ∀ c ∈ L.filter isCode, P c = true) : L.all P = true := by
  refine List.all_eq_true.mpr fun c hc => ?_
  have h := List.all_eq_true.mp h1 c hc
  rcases Bool.eq_false_or_eq_true (isCode c) with hi | hi
  · exact h2 c (List.mem_filter.mpr ⟨hc, hi⟩)
  · simpa [hi] using h
set_option maxRecDepth 65536 in
theorem w_c0 : (Jvm.Cond.code x code maxLocals ret).before args0 about1 = true := code_word (m := ⟨1, 1⟩) (meth := k1m1) (c := k1c1) (by decide +kernel) rfl rfl rfl (by decide +kernel)
set_option maxRecDepth 65536 in
theorem w_c1 : (Jvm.Cond.code ({ cls := "com/example/shiftweave/shiftweave/ContractTables", name := "countsWeekend", desc := "(IZ)Z" } : Jvm.MethodName) prog_16_method_30_code (3 : Nat) (Option.some Jvm.ClassFile.FieldType.boolean)).before args0 about1 = true := code_word (m := ⟨2, 0⟩) (meth := k2m0) (c := k2c0) (by decide +kernel) rfl rfl rfl (by decide +kernel)
def codes1 : List Jvm.Cond := [Jvm.Cond.code x code maxLocals ret, Jvm.Cond.code ({ cls := "com/example/shiftweave/shiftweave/ContractTables", name := "countsWeekend", desc := "(IZ)Z" } : Jvm.MethodName) prog_16_method_30_code (3 : Nat) (Option.some Jvm.ClassFile.FieldType.boolean)]
set_option maxRecDepth 65536 in
theorem codes_eq : words1.filter isCode = codes1 := rfl
theorem w_codes : ∀ c ∈ words1.filter isCode, c.before args0 about1 = true := by
  rw [codes_eq]
  intro c hc
  simp only [codes1, List.mem_cons, List.not_mem_nil, or_false] at hc
  rcases hc with rfl | rfl
  · exact w_c0
  · exact w_c1
set_option maxRecDepth 65536 in
theorem w_t1 : words1.all (fun c => isCode c || c.before args0 about1) = true := by decide +kernel
theorem w_tables : (allAtoms (Jvm.Cond.code x code maxLocals ret :: tables_1)).before args0 about1 = true := by
  rw [allAtoms_all]
  show words1.all (fun c => c.before args0 about1) = true
  refine all_split ?_ w_codes
  rw [w_t1]
set_option maxRecDepth 65536 in
theorem w_case : (Jvm.Cond.and given_1 narrow_1).before args0 about1 = true := by decide +kernel
theorem w_applies : (headSpec (Jvm.Cond.code x code maxLocals ret :: tables_1) room_1).applies x e0.platform about1 = true :=
  (Spec.applies_iff w_frames).mpr ⟨w_running, w_runnable, w_alone, w_named, w_hears, w_ripe, w_room, w_tables⟩
theorem atStart : AtStart classFile x code maxLocals ret World_1 tables_1 room_1 Calls_1 rest_1 Pre_1 launch0 p0 e0 about1 theMethod args0 below0 :=
  ⟨lists_1, trivial, launch0.admits_env _ _ _, launch0.least_env, fairChoices_fair.cas, fairChoices_fair.clock, w_frames, w_args, w_heap, w_applies, trivial, trivial, w_case⟩
end start1
theorem witness_1 : WitnessClaimed_1 := ⟨start1.p0, start1.e0, start1.about1, start1.theMethod, start1.args0, start1.below0, start1.atStart⟩
end Jvm.Pilot.@@N@@
