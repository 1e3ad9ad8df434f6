import JvmDerived
import JvmDerived.Pilot.@@N@@Statement
import JvmDerived.Pilot.@@N@@Code
set_option linter.unusedVariables false
set_option linter.unusedSimpArgs false
@@BLOCK:NumsL.lean.txt@@
namespace Jvm.RoadKit
open Sem ClassFile Op Lib Jvm.Stand Jvm.Free Jvm.LawKit
section New
variable {p : Program} {l : Launch} {e : Env} {R : Room} {s : State} {m : MethodId} {args : Array Value} {below : List Frame} {meth : Method} {c : Code} {T : State} {locs : List Loc} {cells slots : Nat}
theorem retI (X : Stand p l e R s m args below meth c T locs cells slots) (hx : p.tables.exec = Jvm.exec) {pc : Nat} {Ls : Array Slot} {z : Int32} {rest : List Value} (hret : meth.sig.returnType = some .int) (hd : decode c.code pc = .ok (.ireturn, 1)) {fs : List Frame}
    (hl : ∀ (f : JFrame) (acts : List Action), f.method = m → f.locked = none → f.entered = [] → (doReturn e (T.setTop f) acts (some (.int z))).1 = T.setFrames fs) : Steps p.tables e below (T.setTop (mkF m pc Ls (.int z :: rest))) (T.setFrames fs) := by
  have hm' : T.vm.method? m = some meth := X.method'
  have hn : narrow .int (.int z) = .int z := rfl
  show Steps p.tables e below (T.setTop { method := m, pc := pc, locals := Ls, stack := _ :: rest, locked := none }) _
  jvm_step X.here [X.here.top, hx, hd, hm', hret, hn]
  first | (intro acts; rw [hl _ acts rfl rfl rfl]) | rw [hl _ _ rfl rfl rfl]
  exact Steps.refl _
/-- the run from A comes to a return of which F says the value, the heap and the written places -/
def own_Goes (p : Program) (e : Env) (below : List Frame) (s : State) (F : Option Value → Heap → List Loc → Prop) (k n : Nat) (A : State) : Prop :=
  ∃ s₂ o, Steps p.tables e below A s₂ ∧ s₂.status = .running ∧ Ended s₂ below o ∧ ∃ v L, o = .returned v ∧ F v s₂.heap L ∧ FrameEnd s o s₂ L k n
variable {F : Option Value → Heap → List Loc → Prop} {k n : Nat}
theorem own_Goes.step {A B : State} (h : ∀ t, Steps p.tables e below B t → Steps p.tables e below A t) (g : own_Goes p e below s F k n B) : own_Goes p e below s F k n A := by
  obtain ⟨s₂, o, h1, h2⟩ := g
  exact ⟨s₂, o, h _ h1, h2⟩
theorem own_endI (X : Stand p l e R s m args below meth c T locs cells slots) (hx : p.tables.exec = Jvm.exec) (hlk : meth.locks = false) {pc : Nat} {Ls : Array Slot} {z : Int32} {rest : List Value} (hret : meth.sig.returnType = some .int) (hd : decode c.code pc = .ok (.ireturn, 1)) (hF : F (some (.int z)) T.heap locs) (hk : cells ≤ k) (hn : slots ≤ n) :
    own_Goes p e below s F k n (T.setTop (mkF m pc Ls (.int z :: rest))) := by
  obtain ⟨fs, hr, hrun, hended, hW, hsame⟩ := X.leave (v := some (.int z)) (fun h => by rw [hret] at h; cases h) hlk
  exact ⟨_, _, retI X hx hret hd hr, hrun, hended, _, _, rfl, hF, ⟨_, rfl⟩, hW, hsame.mono hk hn⟩
theorem own_endN (X : Stand p l e R s m args below meth c T locs cells slots) (hx : p.tables.exec = Jvm.exec) (hlk : meth.locks = false) {pc : Nat} {Ls : Array Slot} {z : Int32} {t : FieldType} {rest : List Value} (hret : meth.sig.returnType = some t) (ht : t = .boolean ∨ t = .byte ∨ t = .char ∨ t = .short) (hd : decode c.code pc = .ok (.ireturn, 1)) (hF : F (some (.int (nar t z))) T.heap locs) (hk : cells ≤ k) (hn : slots ≤ n) :
    own_Goes p e below s F k n (T.setTop (mkF m pc Ls (.int z :: rest))) := by
  obtain ⟨fs, hr, hrun, hended, hW, hsame⟩ := X.leave (v := some (.int (nar t z))) (fun h => by rw [hret] at h; cases h) hlk
  exact ⟨_, _, retN X hx hret ht hd hr, hrun, hended, _, _, rfl, hF, ⟨_, rfl⟩, hW, hsame.mono hk hn⟩
theorem own_endJ (X : Stand p l e R s m args below meth c T locs cells slots) (hx : p.tables.exec = Jvm.exec) (hlk : meth.locks = false) {pc : Nat} {Ls : Array Slot} {z : Int64} (hret : meth.sig.returnType = some .long) (hd : decode c.code pc = .ok (.lreturn, 1)) (hF : F (some (.long z)) T.heap locs) (hk : cells ≤ k) (hn : slots ≤ n) :
    own_Goes p e below s F k n (T.setTop (mkF m pc Ls [.long z])) := by
  obtain ⟨fs, hr, hrun, hended, hW, hsame⟩ := X.leave (v := some (.long z)) (fun h => by rw [hret] at h; cases h) hlk
  exact ⟨_, _, X.lreturnOut hx hret hd hr, hrun, hended, _, _, rfl, hF, ⟨_, rfl⟩, hW, hsame.mono hk hn⟩
theorem own_endV (X : Stand p l e R s m args below meth c T locs cells slots) (hx : p.tables.exec = Jvm.exec) (hlk : meth.locks = false) {pc : Nat} {Ls : Array Slot} (hret : meth.sig.returnType = none) (hd : decode c.code pc = .ok (.return_, 1)) (hF : F none T.heap locs) (hk : cells ≤ k) (hn : slots ≤ n) :
    own_Goes p e below s F k n (T.setTop (mkF m pc Ls [])) := by
  obtain ⟨fs, hr, hrun, hended, hW, hsame⟩ := X.leave (v := none) (fun _ => rfl) hlk
  exact ⟨_, _, X.returnOut hx hret hd hr, hrun, hended, _, _, rfl, hF, ⟨_, rfl⟩, hW, hsame.mono hk hn⟩
theorem own_endA (X : Stand p l e R s m args below meth c T locs cells slots) (hx : p.tables.exec = Jvm.exec) (hlk : meth.locks = false) {pc : Nat} {Ls : Array Slot} {w : Value} {t : FieldType} (hw : w.isRef = true) (hret : meth.sig.returnType = some t) (ht : t.isReference = true) (hd : decode c.code pc = .ok (.areturn, 1)) (hF : F (some w) T.heap locs) (hk : cells ≤ k) (hn : slots ≤ n) :
    own_Goes p e below s F k n (T.setTop (mkF m pc Ls [w])) := by
  obtain ⟨fs, hr, hrun, hended, hW, hsame⟩ := X.leave (v := some w) (fun h => by rw [hret] at h; cases h) hlk
  exact ⟨_, _, X.areturnOut hx hw hret ht hd hr, hrun, hended, _, _, rfl, hF, ⟨_, rfl⟩, hW, hsame.mono hk hn⟩
theorem own_lrem (x y : Int64) : x - x / y * y = x % y := by
  refine Int64.toInt_inj.mp ?_
  rw [Jvm.Kit.i64_rem, Int64.toInt_mod]
theorem own_lremM {g : JFrame} {target : State} (X : Stand p l e R s m args below meth c T locs cells slots) (hx : p.tables.exec = Jvm.exec) (hg : g.method = m) {x y : Int64} {rest : List Value} (hd : decode c.code g.pc = .ok (.lrem, 1)) (hs : g.stack = .long y :: .long x :: rest) (hy : y ≠ 0)
    (hr : Steps p.tables e below (T.setTop { g with pc := g.pc + 1, stack := .long (x % y) :: rest }) target) : Steps p.tables e below (T.setTop g) target :=
  XT.lrem X.here hx hg hd hs hy (by rw [own_lrem]; exact hr)
/-- the three calls, by a contract in this family, carried forward -/
theorem own_stat {Z : State} {a0 : Array Value} {h : Heap} (X : Stand p l e R s m args below meth c T locs cells slots) (hx : p.tables.exec = Jvm.exec) (hZ : Z.Warmed39 s.vm) (eT : T.heap = h) {own : String} {index : Nat} {y : MethodName} {bytes : ByteArray} {maxL : Nat} {ret : Option FieldType} {rm : Room} {W : Nat} {argsL rest : List Value} {Q : Option Value → Heap → List Loc → Prop}
    (hown : s.vm.findClass own = some m.cls) (wl : (Cond.methodLink own index y).before a0 Z = true) (wst : (Cond.static y).before a0 Z = true) (wi : (Cond.initialized y.cls).before a0 Z = true) (wc : (Cond.code y bytes maxL ret).before a0 Z = true) (hy : y.cls ≠ "java/lang/invoke/MethodHandle" ∧ y.cls ≠ "java/lang/invoke/VarHandle")
    (hM : MetFree l y (head1 [Cond.code y bytes maxL ret] rm) (fun a U => a = argsL.toArray ∧ Z.Warmed39 U.vm ∧ U.heap = h) (fun _ _ _ _ _ => True) (fun _ U o U' => ∃ w L, o = .returned w ∧ Q w U'.heap L ∧ FrameEnd U o U' L rm.cells rm.slots))
    (hf : rm.frames + 1 ≤ R.frames) (hl : W + (maxL + 11) + rm.locals ≤ R.locals) (hcells : cells + rm.cells ≤ R.cells) (hslots : slots + rm.slots ≤ R.slots)
    {g : JFrame} (hg : g.method = m) (hsize : g.locals.size = c.maxLocals) (hlen : ∀ sig, parseMethodDescriptor y.desc = some sig → argsL.length = sig.parameters.length) (hstack : g.stack = argsL.reverse ++ rest) (hW : 2 * g.monitorRoom + (rest.map fun v => v.category).sum ≤ W) (hdg : decode c.code g.pc = .ok (.invokestatic index, 3)) :
    ∃ w T' L, Q w T'.heap L ∧ Stand p l e R s m args below meth c T' (locs ++ L) (cells + rm.cells) (slots + rm.slots) ∧ ∀ t, Steps p.tables e below (T'.setTop { g with pc := g.pc + 3, stack := w.toList ++ rest }) t → Steps p.tables e below (T.setTop g) t := by
  have hB := backOf (R := R) (p := p) (e := e) (below := below) (args := args) (len := 3) (W := W) (Q := Q) hM hZ wc wi hf hl
  obtain ⟨w, vm₁, ⟨U, Lc, k1, n1⟩, -, X', ⟨L, hQ, hL, hC, hS⟩, st⟩ := Jvm.LawKit.callS X hx (y := y) hown (mvT hZ wl) (mvT hZ wst) (mvT hZ wi) (mvT hZ wc) hy hB (g := g) hg hsize hlen hstack hW hdg (fun _ _ => ⟨rfl, eT, hcells, hslots⟩)
  dsimp only [Pt.U, Pt.locs, Pt.cells, Pt.slots] at X' hQ hL hC hS st
  subst hL hC hS
  exact ⟨w, U, L, hQ, X', st⟩
theorem own_spec {Z : State} {a0 : Array Value} {h : Heap} (X : Stand p l e R s m args below meth c T locs cells slots) (hx : p.tables.exec = Jvm.exec) (hZ : Z.Warmed39 s.vm) (eT : T.heap = h) {own : String} {index : Nat} {y : MethodName} {bytes : ByteArray} {maxL : Nat} {rm : Room} {W : Nat} {a : Addr} {argsL rest : List Value} {Q : Option Value → Heap → List Loc → Prop}
    (hy1 : y.name = "<init>") (hown : s.vm.findClass own = some m.cls) (wl : (Cond.methodLink own index y).before a0 Z = true) (wst : (Cond.instanceMethod y).before a0 Z = true) (wi : (Cond.initialized y.cls).before a0 Z = true) (wc : (Cond.code y bytes maxL none).before a0 Z = true) (hy : y.cls ≠ "java/lang/invoke/MethodHandle" ∧ y.cls ≠ "java/lang/invoke/VarHandle")
    (hM : MetFree l y (head1 [Cond.code y bytes maxL none] rm) (fun b U => b = (.ref a :: argsL).toArray ∧ Z.Warmed39 U.vm ∧ U.heap = h) (fun _ _ _ _ _ => True) (fun _ U o U' => ∃ w L, o = .returned w ∧ Q w U'.heap L ∧ FrameEnd U o U' L rm.cells rm.slots))
    (hf : rm.frames + 1 ≤ R.frames) (hl : W + (maxL + 11) + rm.locals ≤ R.locals) (hcells : cells + rm.cells ≤ R.cells) (hslots : slots + rm.slots ≤ R.slots)
    {g : JFrame} (hg : g.method = m) (hsize : g.locals.size = c.maxLocals) (hlen : ∀ sig, parseMethodDescriptor y.desc = some sig → argsL.length = sig.parameters.length) (hstack : g.stack = argsL.reverse ++ .ref a :: rest) (hW : 2 * g.monitorRoom + (rest.map fun v => v.category).sum ≤ W) (hdg : decode c.code g.pc = .ok (.invokespecial index, 3)) :
    ∃ w T' L, Q w T'.heap L ∧ Stand p l e R s m args below meth c T' (locs ++ L) (cells + rm.cells) (slots + rm.slots) ∧ ∀ t, Steps p.tables e below (T'.setTop { g with pc := g.pc + 3, stack := w.toList ++ rest }) t → Steps p.tables e below (T.setTop g) t := by
  have hB := backOf (R := R) (p := p) (e := e) (below := below) (args := args) (len := 3) (W := W) (Q := Q) hM hZ wc wi hf hl
  obtain ⟨w, vm₁, ⟨U, Lc, k1, n1⟩, -, X', ⟨L, hQ, hL, hC, hS⟩, st⟩ := X.specialBack hx (y := y) hy1 hown (mvT hZ wl) (mvT hZ wst) (mvT hZ wc) hy hB (g := g) hg hsize (Steps.refl _) (a := a) hlen hstack hW hdg (fun _ _ => ⟨rfl, eT, hcells, hslots⟩)
  dsimp only [Pt.U, Pt.locs, Pt.cells, Pt.slots] at X' hQ hL hC hS st
  subst hL hC hS
  exact ⟨w, U, L, hQ, X', fun t k => st.trans k⟩
theorem own_virt {Z : State} {a0 : Array Value} {h : Heap} (X : Stand p l e R s m args below meth c T locs cells slots) (hx : p.tables.exec = Jvm.exec) (hZ : Z.Warmed39 s.vm) (eT : T.heap = h) {own C : String} {index : Nat} {y : MethodName} {bytes : ByteArray} {maxL : Nat} {ret : Option FieldType} {rm : Room} {W : Nat} {a : Addr} {argsL rest : List Value} {Q : Option Value → Heap → List Loc → Prop}
    (E : Exa Z h a C) (hown : s.vm.findClass own = some m.cls) (wl : (Cond.methodLink own index y).before a0 Z = true) (wd : (Cond.declares y).before a0 Z = true) (ws : (Cond.selects C y y).before a0 Z = true) (wst : (Cond.instanceMethod y).before a0 Z = true) (wi : (Cond.initialized y.cls).before a0 Z = true) (wc : (Cond.code y bytes maxL ret).before a0 Z = true) (hy : y.cls ≠ "java/lang/invoke/MethodHandle" ∧ y.cls ≠ "java/lang/invoke/VarHandle")
    (hM : MetFree l y (head1 [Cond.code y bytes maxL ret] rm) (fun b U => b = (.ref a :: argsL).toArray ∧ Z.Warmed39 U.vm ∧ U.heap = h) (fun _ _ _ _ _ => True) (fun _ U o U' => ∃ w L, o = .returned w ∧ Q w U'.heap L ∧ FrameEnd U o U' L rm.cells rm.slots))
    (hf : rm.frames + 1 ≤ R.frames) (hl : W + (maxL + 11) + rm.locals ≤ R.locals) (hcells : cells + rm.cells ≤ R.cells) (hslots : slots + rm.slots ≤ R.slots)
    {g : JFrame} (hg : g.method = m) (hsize : g.locals.size = c.maxLocals) (hlen : ∀ sig, parseMethodDescriptor y.desc = some sig → argsL.length = sig.parameters.length) (hstack : g.stack = argsL.reverse ++ .ref a :: rest) (hW : 2 * g.monitorRoom + (rest.map fun v => v.category).sum ≤ W) (hdg : decode c.code g.pc = .ok (.invokevirtual index, 3)) :
    ∃ w T' L, Q w T'.heap L ∧ Stand p l e R s m args below meth c T' (locs ++ L) (cells + rm.cells) (slots + rm.slots) ∧ ∀ t, Steps p.tables e below (T'.setTop { g with pc := g.pc + 3, stack := w.toList ++ rest }) t → Steps p.tables e below (T.setTop g) t := by
  have hB := backOf (R := R) (p := p) (e := e) (below := below) (args := args) (len := 3) (W := W) (Q := Q) hM hZ wc wi hf hl
  obtain ⟨cq, kq, qa, qb, qc⟩ := isOf hZ eT E
  obtain ⟨w, vm₁, ⟨U, Lc, k1, n1⟩, -, X', ⟨L, hQ, hL, hC, hS⟩, st⟩ := X.virtualBack hx (y := y) (z := y) hown (mvT hZ wl) (mvT hZ wd) (notFace_of_selects (args := #[]) (mvT hZ ws)) (mvT hZ ws) (mvT hZ wst) hy hB qa qc (g := g) hg hsize (Steps.refl _) hlen hstack hW hdg (fun _ _ => ⟨rfl, eT, hcells, hslots⟩)
  dsimp only [Pt.U, Pt.locs, Pt.cells, Pt.slots] at X' hQ hL hC hS st
  subst hL hC hS
  exact ⟨w, U, L, hQ, X', fun t k => st.trans k⟩
/-- a call that left nothing behind -/
theorem own_clean {h : Heap} {w v : Option Value} {T' : State} {L : List Loc} {k0 n0 : Nat} (q : w = v ∧ L = [] ∧ T'.heap = h) (X : Stand p l e R s m args below meth c T' (locs ++ L) (cells + k0) (slots + n0)) (hk : k0 = 0) (hn : n0 = 0) : T'.heap = h ∧ Stand p l e R s m args below meth c T' locs cells slots := by
  obtain ⟨-, rfl, hh⟩ := q
  subst hk hn
  rw [List.append_nil] at X
  exact ⟨hh, X⟩
theorem own_nin {a b : Addr} (q : b ≠ a) : b ∉ [a] := fun h => q (List.mem_singleton.mp h)
theorem own_kt {h0 : Heap} {ws : List Addr} {a : Addr} (q : a ∈ ws ∨ h0.size ≤ a) : ∀ x ∈ [a], x ∈ ws ∨ h0.size ≤ x := fun x hx => by
  cases List.mem_singleton.mp hx; exact q
end New
end Jvm.RoadKit
namespace Jvm.Pilot.@@N@@
open Jvm Jvm.ClassFile Sem Op Lib Jvm.Free Jvm.Stand Jvm.LawKit Jvm.RoadKit Bundle Jvm.Pilot.@@N@@.Jvm.D
/-! plain facts on ints and longs -/
theorem own_char16 (u : UInt16) : (u.toUInt32.toInt32).toInt = u.toNat := by
  have h := u.toNat_lt
  show BitVec.toInt u.toUInt32.toBitVec = _
  rw [BitVec.toInt_eq_toNat_of_lt (by simp; omega)]
  simp
theorem own_char (y : Int32) : 0 ≤ (y.toUInt32.toUInt16.toUInt32.toInt32).toInt ∧ (y.toUInt32.toUInt16.toUInt32.toInt32).toInt < 65536 := by
  rw [own_char16]
  have h := y.toUInt32.toUInt16.toNat_lt
  omega
theorem own_fin32 {P : Int32 → Prop} (n : Nat) (h : ∀ k : Fin n, P (Int32.ofNat k)) (c : Int32) (h0 : 0 ≤ c.toInt) (h1 : c.toInt < n) : P c := by
  have e : c = Int32.ofNat c.toInt.toNat := by
    apply Int32.toInt_inj.mp
    have hb := c.toInt_lt
    rw [Int32.toInt_ofNat_of_lt (by omega)]
    omega
  rw [e]
  exact h ⟨c.toInt.toNat, by omega⟩
theorem own_lt32 (x y : Int32) : (x < y) ↔ x.toInt < y.toInt := Int32.lt_iff_toInt_lt
theorem own_eq32 (x y : Int32) : (x = y) ↔ x.toInt = y.toInt := Int32.toInt_inj.symm
theorem own_lt64 (x y : Int64) : (x < y) ↔ x.toInt < y.toInt := Int64.lt_iff_toInt_lt
theorem own_eq64 (x y : Int64) : (x = y) ↔ x.toInt = y.toInt := Int64.toInt_inj.symm
theorem d2_0 : decode method_2_code 0 = .ok (.iload_n 0, 1) := by decide +kernel
theorem d2_1 : decode method_2_code 1 = .ok (.bipush 32, 2) := by decide +kernel
theorem d2_3 : decode method_2_code 3 = .ok (.ior, 1) := by decide +kernel
theorem d2_4 : decode method_2_code 4 = .ok (.istore_n 1, 1) := by decide +kernel
theorem d2_5 : decode method_2_code 5 = .ok (.iload_n 1, 1) := by decide +kernel
theorem d2_6 : decode method_2_code 6 = .ok (.bipush 97, 2) := by decide +kernel
theorem d2_8 : decode method_2_code 8 = .ok (.if_icmp .lt 13, 3) := by decide +kernel
theorem d2_11 : decode method_2_code 11 = .ok (.iload_n 1, 1) := by decide +kernel
theorem d2_12 : decode method_2_code 12 = .ok (.bipush 122, 2) := by decide +kernel
theorem d2_14 : decode method_2_code 14 = .ok (.if_icmp .gt 7, 3) := by decide +kernel
theorem d2_17 : decode method_2_code 17 = .ok (.iconst 1, 1) := by decide +kernel
theorem d2_18 : decode method_2_code 18 = .ok (.goto 4, 3) := by decide +kernel
theorem d2_21 : decode method_2_code 21 = .ok (.iconst 0, 1) := by decide +kernel
theorem d2_22 : decode method_2_code 22 = .ok (.istore_n 2, 1) := by decide +kernel
theorem d2_23 : decode method_2_code 23 = .ok (.iload_n 0, 1) := by decide +kernel
theorem d2_24 : decode method_2_code 24 = .ok (.bipush 48, 2) := by decide +kernel
theorem d2_26 : decode method_2_code 26 = .ok (.if_icmp .lt 13, 3) := by decide +kernel
theorem d2_29 : decode method_2_code 29 = .ok (.iload_n 0, 1) := by decide +kernel
theorem d2_30 : decode method_2_code 30 = .ok (.bipush 58, 2) := by decide +kernel
theorem d2_32 : decode method_2_code 32 = .ok (.if_icmp .ge 7, 3) := by decide +kernel
theorem d2_35 : decode method_2_code 35 = .ok (.iconst 1, 1) := by decide +kernel
theorem d2_36 : decode method_2_code 36 = .ok (.goto 4, 3) := by decide +kernel
theorem d2_39 : decode method_2_code 39 = .ok (.iconst 0, 1) := by decide +kernel
theorem d2_40 : decode method_2_code 40 = .ok (.istore_n 3, 1) := by decide +kernel
theorem d2_41 : decode method_2_code 41 = .ok (.iload_n 0, 1) := by decide +kernel
theorem d2_42 : decode method_2_code 42 = .ok (.bipush 45, 2) := by decide +kernel
theorem d2_44 : decode method_2_code 44 = .ok (.if_icmp .eq 21, 3) := by decide +kernel
theorem d2_47 : decode method_2_code 47 = .ok (.iload_n 0, 1) := by decide +kernel
theorem d2_48 : decode method_2_code 48 = .ok (.bipush 46, 2) := by decide +kernel
theorem d2_50 : decode method_2_code 50 = .ok (.if_icmp .eq 15, 3) := by decide +kernel
theorem d2_53 : decode method_2_code 53 = .ok (.iload_n 0, 1) := by decide +kernel
theorem d2_54 : decode method_2_code 54 = .ok (.bipush 95, 2) := by decide +kernel
theorem d2_56 : decode method_2_code 56 = .ok (.if_icmp .eq 9, 3) := by decide +kernel
theorem d2_59 : decode method_2_code 59 = .ok (.iload_n 0, 1) := by decide +kernel
theorem d2_60 : decode method_2_code 60 = .ok (.bipush 126, 2) := by decide +kernel
theorem d2_62 : decode method_2_code 62 = .ok (.if_icmp .ne 7, 3) := by decide +kernel
theorem d2_65 : decode method_2_code 65 = .ok (.iconst 1, 1) := by decide +kernel
theorem d2_66 : decode method_2_code 66 = .ok (.goto 4, 3) := by decide +kernel
theorem d2_69 : decode method_2_code 69 = .ok (.iconst 0, 1) := by decide +kernel
theorem d2_70 : decode method_2_code 70 = .ok (.istore 4, 2) := by decide +kernel
theorem d2_72 : decode method_2_code 72 = .ok (.iload_n 2, 1) := by decide +kernel
theorem d2_73 : decode method_2_code 73 = .ok (.ifCond .ne 12, 3) := by decide +kernel
theorem d2_76 : decode method_2_code 76 = .ok (.iload_n 3, 1) := by decide +kernel
theorem d2_77 : decode method_2_code 77 = .ok (.ifCond .ne 8, 3) := by decide +kernel
theorem d2_80 : decode method_2_code 80 = .ok (.iload 4, 2) := by decide +kernel
theorem d2_82 : decode method_2_code 82 = .ok (.ifCond .eq 7, 3) := by decide +kernel
theorem d2_85 : decode method_2_code 85 = .ok (.iconst 1, 1) := by decide +kernel
theorem d2_86 : decode method_2_code 86 = .ok (.goto 4, 3) := by decide +kernel
theorem d2_89 : decode method_2_code 89 = .ok (.iconst 0, 1) := by decide +kernel
theorem d2_90 : decode method_2_code 90 = .ok (.ireturn, 1) := by decide +kernel
theorem pn_2 : plainName "com/example/librobots/librobots/robots/UrlPathsIsUnreservedPinLaw" = true := by first | (simp [plainName, overriddenIn]; done) | decide +kernel
theorem pd_2 : parseMethodDescriptor "(I)Z" = some ⟨[.int], (some .boolean)⟩ := by decide +kernel
theorem ef_2 (m : MethodId) (x0 : Int32) : entryFrame m #[(.int x0)] 5 = mkF m 0 #[.val (.int x0), .unset, .unset, .unset, .unset] [] := by first | (simp [entryFrame, mkF, argsToLocals, Value.category]; done) | rfl
def own_f2_1 (x0 : Int32) : Int32 := (if (x0 ||| (32 : Int32)) < (97 : Int32) then (0 : Int32) else (if (122 : Int32) < (x0 ||| (32 : Int32)) then (0 : Int32) else (1 : Int32)))
def own_f2_2 (x0 : Int32) : Int32 := (if x0 < (48 : Int32) then (0 : Int32) else (if x0 < (58 : Int32) then (1 : Int32) else (0 : Int32)))
def own_f2_3 (x0 : Int32) : Int32 := (if x0 = (45 : Int32) then (1 : Int32) else (if x0 = (46 : Int32) then (1 : Int32) else (if x0 = (95 : Int32) then (1 : Int32) else (if x0 = (126 : Int32) then (1 : Int32) else (0 : Int32)))))
def own_f2 (x0 : Int32) : Int32 := (if (own_f2_1 x0) = (0 : Int32) then (if (own_f2_2 x0) = (0 : Int32) then (if (own_f2_3 x0) = (0 : Int32) then (0 : Int32) else (1 : Int32)) else (1 : Int32)) else (1 : Int32))
def own_F2 (Z : State) (x0 : Int32)  (h0 : Heap) (v : Option Value) (h : Heap) (L : List Loc) : Prop := v = some (.int (own_f2 x0)) ∧ L = [] ∧ h = h0
set_option maxRecDepth 65536 in
set_option maxHeartbeats 40000000 in
theorem own_m2 (l : Launch) (Z : State) (a0 : Array Value) (hw : ∀ d ∈ tables_1, d.before a0 Z = true) (ws : List Jvm.Cond) (x0 : Int32)  (h0 : Heap)   :
    MetFree l (⟨"com/example/librobots/librobots/robots/UrlPathsIsUnreservedPinLaw", "expected", "(I)Z"⟩ : MethodName) (head1 (Jvm.Cond.code (⟨"com/example/librobots/librobots/robots/UrlPathsIsUnreservedPinLaw", "expected", "(I)Z"⟩ : MethodName) method_2_code 5 (some .boolean) :: ws) ({ frames := 0, cells := 0, slots := 0, locals := 0 } : Room)) (fun a U => a = #[(.int x0)] ∧ Z.Warmed39 U.vm ∧ U.heap = h0) (fun _ _ _ _ _ => True) (fun _ U o U' => ∃ v L, o = .returned v ∧ own_F2 Z x0 h0 v U'.heap L ∧ FrameEnd U o U' L ({ frames := 0, cells := 0, slots := 0, locals := 0 } : Room).cells ({ frames := 0, cells := 0, slots := 0, locals := 0 } : Room).slots) := by
  refine MetFree.of_bodySF (plainFor_of_name pn_2) hisR ?_
  intro p e s m args below meth c s₁ Bd hml0 hP hK
  obtain ⟨rfl, hZ, hh⟩ := hP
  have hx := Bd.exec
  have hby := Bd.bytes
  have hml : c.maxLocals = 5 := hml0
  have hown : s.vm.findClass "com/example/librobots/librobots/robots/UrlPathsIsUnreservedPinLaw" = some m.cls := findClass_of_methodNamed Bd.named
  have hnm := (name_of_methodNamed Bd.named Bd.method).1
  have X0 : Stand p l e ({ frames := 0, cells := 0, slots := 0, locals := 0 } : Room) s m #[(.int x0)] below meth c s₁ [] 0 0 := Stand.of_body Bd
  have e0 : s₁.heap = h0 := by rw [← hh, Bd.state]; rfl
  have hgo : own_Goes p e below s (own_F2 Z x0 h0) 0 0 (s₁.setTop (mkF m 0 #[.val (.int x0), .unset, .unset, .unset, .unset] [])) := by
    refine own_Goes.step (fun t k => XS.iloadN X0.here hx rfl (hb hby d2_0) rfl k) ?_
    show own_Goes p e below s (own_F2 Z x0 h0) 0 0 (s₁.setTop (mkF m 1 #[.val (.int x0), .unset, .unset, .unset, .unset] [(.int x0)]))
    refine own_Goes.step (fun t k => XT.bipushV X0.here hx rfl (32 : Int32) (hb hby d2_1) (by decide) k) ?_
    show own_Goes p e below s (own_F2 Z x0 h0) 0 0 (s₁.setTop (mkF m 3 #[.val (.int x0), .unset, .unset, .unset, .unset] [(.int (32 : Int32)), (.int x0)]))
    refine own_Goes.step (fun t k => XT.ior X0.here hx rfl (hb hby d2_3) rfl k) ?_
    show own_Goes p e below s (own_F2 Z x0 h0) 0 0 (s₁.setTop (mkF m 4 #[.val (.int x0), .unset, .unset, .unset, .unset] [(.int (x0 ||| (32 : Int32)))]))
    refine own_Goes.step (fun t k => XS.istoreN X0.here hx rfl (hb hby d2_4) rfl (l' := #[.val (.int x0), .val (.int (x0 ||| (32 : Int32))), .unset, .unset, .unset]) rfl k) ?_
    show own_Goes p e below s (own_F2 Z x0 h0) 0 0 (s₁.setTop (mkF m 5 #[.val (.int x0), .val (.int (x0 ||| (32 : Int32))), .unset, .unset, .unset] []))
    refine own_Goes.step (fun t k => XS.iloadN X0.here hx rfl (hb hby d2_5) rfl k) ?_
    show own_Goes p e below s (own_F2 Z x0 h0) 0 0 (s₁.setTop (mkF m 6 #[.val (.int x0), .val (.int (x0 ||| (32 : Int32))), .unset, .unset, .unset] [(.int (x0 ||| (32 : Int32)))]))
    refine own_Goes.step (fun t k => XT.bipushV X0.here hx rfl (97 : Int32) (hb hby d2_6) (by decide) k) ?_
    show own_Goes p e below s (own_F2 Z x0 h0) 0 0 (s₁.setTop (mkF m 8 #[.val (.int x0), .val (.int (x0 ||| (32 : Int32))), .unset, .unset, .unset] [(.int (97 : Int32)), (.int (x0 ||| (32 : Int32)))]))
    have J14 : own_Goes p e below s (own_F2 Z x0 h0) 0 0 (s₁.setTop (mkF m 22 #[.val (.int x0), .val (.int (x0 ||| (32 : Int32))), .unset, .unset, .unset] [(.int (own_f2_1 x0))])) := by
      refine own_Goes.step (fun t k => XS.istoreN X0.here hx rfl (hb hby d2_22) rfl (l' := #[.val (.int x0), .val (.int (x0 ||| (32 : Int32))), .val (.int (own_f2_1 x0)), .unset, .unset]) rfl k) ?_
      show own_Goes p e below s (own_F2 Z x0 h0) 0 0 (s₁.setTop (mkF m 23 #[.val (.int x0), .val (.int (x0 ||| (32 : Int32))), .val (.int (own_f2_1 x0)), .unset, .unset] []))
      refine own_Goes.step (fun t k => XS.iloadN X0.here hx rfl (hb hby d2_23) rfl k) ?_
      show own_Goes p e below s (own_F2 Z x0 h0) 0 0 (s₁.setTop (mkF m 24 #[.val (.int x0), .val (.int (x0 ||| (32 : Int32))), .val (.int (own_f2_1 x0)), .unset, .unset] [(.int x0)]))
      refine own_Goes.step (fun t k => XT.bipushV X0.here hx rfl (48 : Int32) (hb hby d2_24) (by decide) k) ?_
      show own_Goes p e below s (own_F2 Z x0 h0) 0 0 (s₁.setTop (mkF m 26 #[.val (.int x0), .val (.int (x0 ||| (32 : Int32))), .val (.int (own_f2_1 x0)), .unset, .unset] [(.int (48 : Int32)), (.int x0)]))
      have J13 : own_Goes p e below s (own_F2 Z x0 h0) 0 0 (s₁.setTop (mkF m 40 #[.val (.int x0), .val (.int (x0 ||| (32 : Int32))), .val (.int (own_f2_1 x0)), .unset, .unset] [(.int (own_f2_2 x0))])) := by
        refine own_Goes.step (fun t k => XS.istoreN X0.here hx rfl (hb hby d2_40) rfl (l' := #[.val (.int x0), .val (.int (x0 ||| (32 : Int32))), .val (.int (own_f2_1 x0)), .val (.int (own_f2_2 x0)), .unset]) rfl k) ?_
        show own_Goes p e below s (own_F2 Z x0 h0) 0 0 (s₁.setTop (mkF m 41 #[.val (.int x0), .val (.int (x0 ||| (32 : Int32))), .val (.int (own_f2_1 x0)), .val (.int (own_f2_2 x0)), .unset] []))
        refine own_Goes.step (fun t k => XS.iloadN X0.here hx rfl (hb hby d2_41) rfl k) ?_
        show own_Goes p e below s (own_F2 Z x0 h0) 0 0 (s₁.setTop (mkF m 42 #[.val (.int x0), .val (.int (x0 ||| (32 : Int32))), .val (.int (own_f2_1 x0)), .val (.int (own_f2_2 x0)), .unset] [(.int x0)]))
        refine own_Goes.step (fun t k => XT.bipushV X0.here hx rfl (45 : Int32) (hb hby d2_42) (by decide) k) ?_
        show own_Goes p e below s (own_F2 Z x0 h0) 0 0 (s₁.setTop (mkF m 44 #[.val (.int x0), .val (.int (x0 ||| (32 : Int32))), .val (.int (own_f2_1 x0)), .val (.int (own_f2_2 x0)), .unset] [(.int (45 : Int32)), (.int x0)]))
        have J12 : own_Goes p e below s (own_F2 Z x0 h0) 0 0 (s₁.setTop (mkF m 70 #[.val (.int x0), .val (.int (x0 ||| (32 : Int32))), .val (.int (own_f2_1 x0)), .val (.int (own_f2_2 x0)), .unset] [(.int (own_f2_3 x0))])) := by
          refine own_Goes.step (fun t k => XS.istore X0.here hx rfl (hb hby d2_70) rfl (l' := #[.val (.int x0), .val (.int (x0 ||| (32 : Int32))), .val (.int (own_f2_1 x0)), .val (.int (own_f2_2 x0)), .val (.int (own_f2_3 x0))]) rfl k) ?_
          show own_Goes p e below s (own_F2 Z x0 h0) 0 0 (s₁.setTop (mkF m 72 #[.val (.int x0), .val (.int (x0 ||| (32 : Int32))), .val (.int (own_f2_1 x0)), .val (.int (own_f2_2 x0)), .val (.int (own_f2_3 x0))] []))
          refine own_Goes.step (fun t k => XS.iloadN X0.here hx rfl (hb hby d2_72) rfl k) ?_
          show own_Goes p e below s (own_F2 Z x0 h0) 0 0 (s₁.setTop (mkF m 73 #[.val (.int x0), .val (.int (x0 ||| (32 : Int32))), .val (.int (own_f2_1 x0)), .val (.int (own_f2_2 x0)), .val (.int (own_f2_3 x0))] [(.int (own_f2_1 x0))]))
          by_cases hc9 : (own_f2_1 x0) = (0 : Int32)
          · refine own_Goes.step (fun t k => XS.ifNo X0.here hx rfl (hb hby d2_73) rfl (XT.i0_ne_f hc9) k) ?_
            show own_Goes p e below s (own_F2 Z x0 h0) 0 0 (s₁.setTop (mkF m 76 #[.val (.int x0), .val (.int (x0 ||| (32 : Int32))), .val (.int (own_f2_1 x0)), .val (.int (own_f2_2 x0)), .val (.int (own_f2_3 x0))] []))
            refine own_Goes.step (fun t k => XS.iloadN X0.here hx rfl (hb hby d2_76) rfl k) ?_
            show own_Goes p e below s (own_F2 Z x0 h0) 0 0 (s₁.setTop (mkF m 77 #[.val (.int x0), .val (.int (x0 ||| (32 : Int32))), .val (.int (own_f2_1 x0)), .val (.int (own_f2_2 x0)), .val (.int (own_f2_3 x0))] [(.int (own_f2_2 x0))]))
            by_cases hc10 : (own_f2_2 x0) = (0 : Int32)
            · refine own_Goes.step (fun t k => XS.ifNo X0.here hx rfl (hb hby d2_77) rfl (XT.i0_ne_f hc10) k) ?_
              show own_Goes p e below s (own_F2 Z x0 h0) 0 0 (s₁.setTop (mkF m 80 #[.val (.int x0), .val (.int (x0 ||| (32 : Int32))), .val (.int (own_f2_1 x0)), .val (.int (own_f2_2 x0)), .val (.int (own_f2_3 x0))] []))
              refine own_Goes.step (fun t k => XS.iload X0.here hx rfl (hb hby d2_80) rfl k) ?_
              show own_Goes p e below s (own_F2 Z x0 h0) 0 0 (s₁.setTop (mkF m 82 #[.val (.int x0), .val (.int (x0 ||| (32 : Int32))), .val (.int (own_f2_1 x0)), .val (.int (own_f2_2 x0)), .val (.int (own_f2_3 x0))] [(.int (own_f2_3 x0))]))
              by_cases hc11 : (own_f2_3 x0) = (0 : Int32)
              · refine own_Goes.step (fun t k => XS.ifYes X0.here hx rfl (pc0 := 82) (pc' := 89) rfl (hb hby d2_82) rfl (XT.i0_eq_t hc11) (by decide) (by decide) k) ?_
                show own_Goes p e below s (own_F2 Z x0 h0) 0 0 (s₁.setTop (mkF m 89 #[.val (.int x0), .val (.int (x0 ||| (32 : Int32))), .val (.int (own_f2_1 x0)), .val (.int (own_f2_2 x0)), .val (.int (own_f2_3 x0))] []))
                refine own_Goes.step (fun t k => XT.iconstV X0.here hx rfl (0 : Int32) (hb hby d2_89) (by decide) k) ?_
                show own_Goes p e below s (own_F2 Z x0 h0) 0 0 (s₁.setTop (mkF m 90 #[.val (.int x0), .val (.int (x0 ||| (32 : Int32))), .val (.int (own_f2_1 x0)), .val (.int (own_f2_2 x0)), .val (.int (own_f2_3 x0))] [(.int (0 : Int32))]))
                exact own_endN X0 hx Bd.notSynchronized (t := .boolean) Bd.returns (by simp) (hb hby d2_90) ⟨(congrArg (fun z => some (Value.int z)) (show (0 : Int32) = own_f2 x0 from by simp only [own_f2, if_pos hc9, if_pos hc10, if_pos hc11])), rfl, e0⟩ (by decide) (by decide)
              · refine own_Goes.step (fun t k => XS.ifNo X0.here hx rfl (hb hby d2_82) rfl (XT.i0_eq_f hc11) k) ?_
                show own_Goes p e below s (own_F2 Z x0 h0) 0 0 (s₁.setTop (mkF m 85 #[.val (.int x0), .val (.int (x0 ||| (32 : Int32))), .val (.int (own_f2_1 x0)), .val (.int (own_f2_2 x0)), .val (.int (own_f2_3 x0))] []))
                refine own_Goes.step (fun t k => XT.iconstV X0.here hx rfl (1 : Int32) (hb hby d2_85) (by decide) k) ?_
                show own_Goes p e below s (own_F2 Z x0 h0) 0 0 (s₁.setTop (mkF m 86 #[.val (.int x0), .val (.int (x0 ||| (32 : Int32))), .val (.int (own_f2_1 x0)), .val (.int (own_f2_2 x0)), .val (.int (own_f2_3 x0))] [(.int (1 : Int32))]))
                refine own_Goes.step (fun t k => XS.goto X0.here hx rfl (pc0 := 86) (pc' := 90) rfl (hb hby d2_86) (by decide) (by decide) k) ?_
                show own_Goes p e below s (own_F2 Z x0 h0) 0 0 (s₁.setTop (mkF m 90 #[.val (.int x0), .val (.int (x0 ||| (32 : Int32))), .val (.int (own_f2_1 x0)), .val (.int (own_f2_2 x0)), .val (.int (own_f2_3 x0))] [(.int (1 : Int32))]))
                exact own_endN X0 hx Bd.notSynchronized (t := .boolean) Bd.returns (by simp) (hb hby d2_90) ⟨(congrArg (fun z => some (Value.int z)) (show (1 : Int32) = own_f2 x0 from by simp only [own_f2, if_pos hc9, if_pos hc10, if_neg hc11])), rfl, e0⟩ (by decide) (by decide)
            · refine own_Goes.step (fun t k => XS.ifYes X0.here hx rfl (pc0 := 77) (pc' := 85) rfl (hb hby d2_77) rfl (XT.i0_ne_t hc10) (by decide) (by decide) k) ?_
              show own_Goes p e below s (own_F2 Z x0 h0) 0 0 (s₁.setTop (mkF m 85 #[.val (.int x0), .val (.int (x0 ||| (32 : Int32))), .val (.int (own_f2_1 x0)), .val (.int (own_f2_2 x0)), .val (.int (own_f2_3 x0))] []))
              refine own_Goes.step (fun t k => XT.iconstV X0.here hx rfl (1 : Int32) (hb hby d2_85) (by decide) k) ?_
              show own_Goes p e below s (own_F2 Z x0 h0) 0 0 (s₁.setTop (mkF m 86 #[.val (.int x0), .val (.int (x0 ||| (32 : Int32))), .val (.int (own_f2_1 x0)), .val (.int (own_f2_2 x0)), .val (.int (own_f2_3 x0))] [(.int (1 : Int32))]))
              refine own_Goes.step (fun t k => XS.goto X0.here hx rfl (pc0 := 86) (pc' := 90) rfl (hb hby d2_86) (by decide) (by decide) k) ?_
              show own_Goes p e below s (own_F2 Z x0 h0) 0 0 (s₁.setTop (mkF m 90 #[.val (.int x0), .val (.int (x0 ||| (32 : Int32))), .val (.int (own_f2_1 x0)), .val (.int (own_f2_2 x0)), .val (.int (own_f2_3 x0))] [(.int (1 : Int32))]))
              exact own_endN X0 hx Bd.notSynchronized (t := .boolean) Bd.returns (by simp) (hb hby d2_90) ⟨(congrArg (fun z => some (Value.int z)) (show (1 : Int32) = own_f2 x0 from by simp only [own_f2, if_pos hc9, if_neg hc10])), rfl, e0⟩ (by decide) (by decide)
          · refine own_Goes.step (fun t k => XS.ifYes X0.here hx rfl (pc0 := 73) (pc' := 85) rfl (hb hby d2_73) rfl (XT.i0_ne_t hc9) (by decide) (by decide) k) ?_
            show own_Goes p e below s (own_F2 Z x0 h0) 0 0 (s₁.setTop (mkF m 85 #[.val (.int x0), .val (.int (x0 ||| (32 : Int32))), .val (.int (own_f2_1 x0)), .val (.int (own_f2_2 x0)), .val (.int (own_f2_3 x0))] []))
            refine own_Goes.step (fun t k => XT.iconstV X0.here hx rfl (1 : Int32) (hb hby d2_85) (by decide) k) ?_
            show own_Goes p e below s (own_F2 Z x0 h0) 0 0 (s₁.setTop (mkF m 86 #[.val (.int x0), .val (.int (x0 ||| (32 : Int32))), .val (.int (own_f2_1 x0)), .val (.int (own_f2_2 x0)), .val (.int (own_f2_3 x0))] [(.int (1 : Int32))]))
            refine own_Goes.step (fun t k => XS.goto X0.here hx rfl (pc0 := 86) (pc' := 90) rfl (hb hby d2_86) (by decide) (by decide) k) ?_
            show own_Goes p e below s (own_F2 Z x0 h0) 0 0 (s₁.setTop (mkF m 90 #[.val (.int x0), .val (.int (x0 ||| (32 : Int32))), .val (.int (own_f2_1 x0)), .val (.int (own_f2_2 x0)), .val (.int (own_f2_3 x0))] [(.int (1 : Int32))]))
            exact own_endN X0 hx Bd.notSynchronized (t := .boolean) Bd.returns (by simp) (hb hby d2_90) ⟨(congrArg (fun z => some (Value.int z)) (show (1 : Int32) = own_f2 x0 from by simp only [own_f2, if_neg hc9])), rfl, e0⟩ (by decide) (by decide)
        by_cases hc5 : x0 = (45 : Int32)
        · refine own_Goes.step (fun t k => XS.icmpYes X0.here hx rfl (pc0 := 44) (pc' := 65) rfl (hb hby d2_44) rfl (XT.ii_eq_t hc5) (by decide) (by decide) k) ?_
          show own_Goes p e below s (own_F2 Z x0 h0) 0 0 (s₁.setTop (mkF m 65 #[.val (.int x0), .val (.int (x0 ||| (32 : Int32))), .val (.int (own_f2_1 x0)), .val (.int (own_f2_2 x0)), .unset] []))
          refine own_Goes.step (fun t k => XT.iconstV X0.here hx rfl (1 : Int32) (hb hby d2_65) (by decide) k) ?_
          show own_Goes p e below s (own_F2 Z x0 h0) 0 0 (s₁.setTop (mkF m 66 #[.val (.int x0), .val (.int (x0 ||| (32 : Int32))), .val (.int (own_f2_1 x0)), .val (.int (own_f2_2 x0)), .unset] [(.int (1 : Int32))]))
          refine own_Goes.step (fun t k => XS.goto X0.here hx rfl (pc0 := 66) (pc' := 70) rfl (hb hby d2_66) (by decide) (by decide) k) ?_
          show own_Goes p e below s (own_F2 Z x0 h0) 0 0 (s₁.setTop (mkF m 70 #[.val (.int x0), .val (.int (x0 ||| (32 : Int32))), .val (.int (own_f2_1 x0)), .val (.int (own_f2_2 x0)), .unset] [(.int (1 : Int32))]))
          rw [show (own_f2_3 x0) = (1 : Int32) from by simp only [own_f2_3, if_pos hc5]] at J12
          exact J12
        · refine own_Goes.step (fun t k => XS.icmpNo X0.here hx rfl (hb hby d2_44) rfl (XT.ii_eq_f hc5) k) ?_
          show own_Goes p e below s (own_F2 Z x0 h0) 0 0 (s₁.setTop (mkF m 47 #[.val (.int x0), .val (.int (x0 ||| (32 : Int32))), .val (.int (own_f2_1 x0)), .val (.int (own_f2_2 x0)), .unset] []))
          refine own_Goes.step (fun t k => XS.iloadN X0.here hx rfl (hb hby d2_47) rfl k) ?_
          show own_Goes p e below s (own_F2 Z x0 h0) 0 0 (s₁.setTop (mkF m 48 #[.val (.int x0), .val (.int (x0 ||| (32 : Int32))), .val (.int (own_f2_1 x0)), .val (.int (own_f2_2 x0)), .unset] [(.int x0)]))
          refine own_Goes.step (fun t k => XT.bipushV X0.here hx rfl (46 : Int32) (hb hby d2_48) (by decide) k) ?_
          show own_Goes p e below s (own_F2 Z x0 h0) 0 0 (s₁.setTop (mkF m 50 #[.val (.int x0), .val (.int (x0 ||| (32 : Int32))), .val (.int (own_f2_1 x0)), .val (.int (own_f2_2 x0)), .unset] [(.int (46 : Int32)), (.int x0)]))
          by_cases hc6 : x0 = (46 : Int32)
          · refine own_Goes.step (fun t k => XS.icmpYes X0.here hx rfl (pc0 := 50) (pc' := 65) rfl (hb hby d2_50) rfl (XT.ii_eq_t hc6) (by decide) (by decide) k) ?_
            show own_Goes p e below s (own_F2 Z x0 h0) 0 0 (s₁.setTop (mkF m 65 #[.val (.int x0), .val (.int (x0 ||| (32 : Int32))), .val (.int (own_f2_1 x0)), .val (.int (own_f2_2 x0)), .unset] []))
            refine own_Goes.step (fun t k => XT.iconstV X0.here hx rfl (1 : Int32) (hb hby d2_65) (by decide) k) ?_
            show own_Goes p e below s (own_F2 Z x0 h0) 0 0 (s₁.setTop (mkF m 66 #[.val (.int x0), .val (.int (x0 ||| (32 : Int32))), .val (.int (own_f2_1 x0)), .val (.int (own_f2_2 x0)), .unset] [(.int (1 : Int32))]))
            refine own_Goes.step (fun t k => XS.goto X0.here hx rfl (pc0 := 66) (pc' := 70) rfl (hb hby d2_66) (by decide) (by decide) k) ?_
            show own_Goes p e below s (own_F2 Z x0 h0) 0 0 (s₁.setTop (mkF m 70 #[.val (.int x0), .val (.int (x0 ||| (32 : Int32))), .val (.int (own_f2_1 x0)), .val (.int (own_f2_2 x0)), .unset] [(.int (1 : Int32))]))
            rw [show (own_f2_3 x0) = (1 : Int32) from by simp only [own_f2_3, if_neg hc5, if_pos hc6]] at J12
            exact J12
          · refine own_Goes.step (fun t k => XS.icmpNo X0.here hx rfl (hb hby d2_50) rfl (XT.ii_eq_f hc6) k) ?_
            show own_Goes p e below s (own_F2 Z x0 h0) 0 0 (s₁.setTop (mkF m 53 #[.val (.int x0), .val (.int (x0 ||| (32 : Int32))), .val (.int (own_f2_1 x0)), .val (.int (own_f2_2 x0)), .unset] []))
            refine own_Goes.step (fun t k => XS.iloadN X0.here hx rfl (hb hby d2_53) rfl k) ?_
            show own_Goes p e below s (own_F2 Z x0 h0) 0 0 (s₁.setTop (mkF m 54 #[.val (.int x0), .val (.int (x0 ||| (32 : Int32))), .val (.int (own_f2_1 x0)), .val (.int (own_f2_2 x0)), .unset] [(.int x0)]))
            refine own_Goes.step (fun t k => XT.bipushV X0.here hx rfl (95 : Int32) (hb hby d2_54) (by decide) k) ?_
            show own_Goes p e below s (own_F2 Z x0 h0) 0 0 (s₁.setTop (mkF m 56 #[.val (.int x0), .val (.int (x0 ||| (32 : Int32))), .val (.int (own_f2_1 x0)), .val (.int (own_f2_2 x0)), .unset] [(.int (95 : Int32)), (.int x0)]))
            by_cases hc7 : x0 = (95 : Int32)
            · refine own_Goes.step (fun t k => XS.icmpYes X0.here hx rfl (pc0 := 56) (pc' := 65) rfl (hb hby d2_56) rfl (XT.ii_eq_t hc7) (by decide) (by decide) k) ?_
              show own_Goes p e below s (own_F2 Z x0 h0) 0 0 (s₁.setTop (mkF m 65 #[.val (.int x0), .val (.int (x0 ||| (32 : Int32))), .val (.int (own_f2_1 x0)), .val (.int (own_f2_2 x0)), .unset] []))
              refine own_Goes.step (fun t k => XT.iconstV X0.here hx rfl (1 : Int32) (hb hby d2_65) (by decide) k) ?_
              show own_Goes p e below s (own_F2 Z x0 h0) 0 0 (s₁.setTop (mkF m 66 #[.val (.int x0), .val (.int (x0 ||| (32 : Int32))), .val (.int (own_f2_1 x0)), .val (.int (own_f2_2 x0)), .unset] [(.int (1 : Int32))]))
              refine own_Goes.step (fun t k => XS.goto X0.here hx rfl (pc0 := 66) (pc' := 70) rfl (hb hby d2_66) (by decide) (by decide) k) ?_
              show own_Goes p e below s (own_F2 Z x0 h0) 0 0 (s₁.setTop (mkF m 70 #[.val (.int x0), .val (.int (x0 ||| (32 : Int32))), .val (.int (own_f2_1 x0)), .val (.int (own_f2_2 x0)), .unset] [(.int (1 : Int32))]))
              rw [show (own_f2_3 x0) = (1 : Int32) from by simp only [own_f2_3, if_neg hc5, if_neg hc6, if_pos hc7]] at J12
              exact J12
            · refine own_Goes.step (fun t k => XS.icmpNo X0.here hx rfl (hb hby d2_56) rfl (XT.ii_eq_f hc7) k) ?_
              show own_Goes p e below s (own_F2 Z x0 h0) 0 0 (s₁.setTop (mkF m 59 #[.val (.int x0), .val (.int (x0 ||| (32 : Int32))), .val (.int (own_f2_1 x0)), .val (.int (own_f2_2 x0)), .unset] []))
              refine own_Goes.step (fun t k => XS.iloadN X0.here hx rfl (hb hby d2_59) rfl k) ?_
              show own_Goes p e below s (own_F2 Z x0 h0) 0 0 (s₁.setTop (mkF m 60 #[.val (.int x0), .val (.int (x0 ||| (32 : Int32))), .val (.int (own_f2_1 x0)), .val (.int (own_f2_2 x0)), .unset] [(.int x0)]))
              refine own_Goes.step (fun t k => XT.bipushV X0.here hx rfl (126 : Int32) (hb hby d2_60) (by decide) k) ?_
              show own_Goes p e below s (own_F2 Z x0 h0) 0 0 (s₁.setTop (mkF m 62 #[.val (.int x0), .val (.int (x0 ||| (32 : Int32))), .val (.int (own_f2_1 x0)), .val (.int (own_f2_2 x0)), .unset] [(.int (126 : Int32)), (.int x0)]))
              by_cases hc8 : x0 = (126 : Int32)
              · refine own_Goes.step (fun t k => XS.icmpNo X0.here hx rfl (hb hby d2_62) rfl (XT.ii_ne_f hc8) k) ?_
                show own_Goes p e below s (own_F2 Z x0 h0) 0 0 (s₁.setTop (mkF m 65 #[.val (.int x0), .val (.int (x0 ||| (32 : Int32))), .val (.int (own_f2_1 x0)), .val (.int (own_f2_2 x0)), .unset] []))
                refine own_Goes.step (fun t k => XT.iconstV X0.here hx rfl (1 : Int32) (hb hby d2_65) (by decide) k) ?_
                show own_Goes p e below s (own_F2 Z x0 h0) 0 0 (s₁.setTop (mkF m 66 #[.val (.int x0), .val (.int (x0 ||| (32 : Int32))), .val (.int (own_f2_1 x0)), .val (.int (own_f2_2 x0)), .unset] [(.int (1 : Int32))]))
                refine own_Goes.step (fun t k => XS.goto X0.here hx rfl (pc0 := 66) (pc' := 70) rfl (hb hby d2_66) (by decide) (by decide) k) ?_
                show own_Goes p e below s (own_F2 Z x0 h0) 0 0 (s₁.setTop (mkF m 70 #[.val (.int x0), .val (.int (x0 ||| (32 : Int32))), .val (.int (own_f2_1 x0)), .val (.int (own_f2_2 x0)), .unset] [(.int (1 : Int32))]))
                rw [show (own_f2_3 x0) = (1 : Int32) from by simp only [own_f2_3, if_neg hc5, if_neg hc6, if_neg hc7, if_pos hc8]] at J12
                exact J12
              · refine own_Goes.step (fun t k => XS.icmpYes X0.here hx rfl (pc0 := 62) (pc' := 69) rfl (hb hby d2_62) rfl (XT.ii_ne_t hc8) (by decide) (by decide) k) ?_
                show own_Goes p e below s (own_F2 Z x0 h0) 0 0 (s₁.setTop (mkF m 69 #[.val (.int x0), .val (.int (x0 ||| (32 : Int32))), .val (.int (own_f2_1 x0)), .val (.int (own_f2_2 x0)), .unset] []))
                refine own_Goes.step (fun t k => XT.iconstV X0.here hx rfl (0 : Int32) (hb hby d2_69) (by decide) k) ?_
                show own_Goes p e below s (own_F2 Z x0 h0) 0 0 (s₁.setTop (mkF m 70 #[.val (.int x0), .val (.int (x0 ||| (32 : Int32))), .val (.int (own_f2_1 x0)), .val (.int (own_f2_2 x0)), .unset] [(.int (0 : Int32))]))
                rw [show (own_f2_3 x0) = (0 : Int32) from by simp only [own_f2_3, if_neg hc5, if_neg hc6, if_neg hc7, if_neg hc8]] at J12
                exact J12
      by_cases hc3 : x0 < (48 : Int32)
      · refine own_Goes.step (fun t k => XS.icmpYes X0.here hx rfl (pc0 := 26) (pc' := 39) rfl (hb hby d2_26) rfl (XT.ii_lt_t hc3) (by decide) (by decide) k) ?_
        show own_Goes p e below s (own_F2 Z x0 h0) 0 0 (s₁.setTop (mkF m 39 #[.val (.int x0), .val (.int (x0 ||| (32 : Int32))), .val (.int (own_f2_1 x0)), .unset, .unset] []))
        refine own_Goes.step (fun t k => XT.iconstV X0.here hx rfl (0 : Int32) (hb hby d2_39) (by decide) k) ?_
        show own_Goes p e below s (own_F2 Z x0 h0) 0 0 (s₁.setTop (mkF m 40 #[.val (.int x0), .val (.int (x0 ||| (32 : Int32))), .val (.int (own_f2_1 x0)), .unset, .unset] [(.int (0 : Int32))]))
        rw [show (own_f2_2 x0) = (0 : Int32) from by simp only [own_f2_2, if_pos hc3]] at J13
        exact J13
      · refine own_Goes.step (fun t k => XS.icmpNo X0.here hx rfl (hb hby d2_26) rfl (XT.ii_lt_f hc3) k) ?_
        show own_Goes p e below s (own_F2 Z x0 h0) 0 0 (s₁.setTop (mkF m 29 #[.val (.int x0), .val (.int (x0 ||| (32 : Int32))), .val (.int (own_f2_1 x0)), .unset, .unset] []))
        refine own_Goes.step (fun t k => XS.iloadN X0.here hx rfl (hb hby d2_29) rfl k) ?_
        show own_Goes p e below s (own_F2 Z x0 h0) 0 0 (s₁.setTop (mkF m 30 #[.val (.int x0), .val (.int (x0 ||| (32 : Int32))), .val (.int (own_f2_1 x0)), .unset, .unset] [(.int x0)]))
        refine own_Goes.step (fun t k => XT.bipushV X0.here hx rfl (58 : Int32) (hb hby d2_30) (by decide) k) ?_
        show own_Goes p e below s (own_F2 Z x0 h0) 0 0 (s₁.setTop (mkF m 32 #[.val (.int x0), .val (.int (x0 ||| (32 : Int32))), .val (.int (own_f2_1 x0)), .unset, .unset] [(.int (58 : Int32)), (.int x0)]))
        by_cases hc4 : x0 < (58 : Int32)
        · refine own_Goes.step (fun t k => XS.icmpNo X0.here hx rfl (hb hby d2_32) rfl (XT.ii_ge_f hc4) k) ?_
          show own_Goes p e below s (own_F2 Z x0 h0) 0 0 (s₁.setTop (mkF m 35 #[.val (.int x0), .val (.int (x0 ||| (32 : Int32))), .val (.int (own_f2_1 x0)), .unset, .unset] []))
          refine own_Goes.step (fun t k => XT.iconstV X0.here hx rfl (1 : Int32) (hb hby d2_35) (by decide) k) ?_
          show own_Goes p e below s (own_F2 Z x0 h0) 0 0 (s₁.setTop (mkF m 36 #[.val (.int x0), .val (.int (x0 ||| (32 : Int32))), .val (.int (own_f2_1 x0)), .unset, .unset] [(.int (1 : Int32))]))
          refine own_Goes.step (fun t k => XS.goto X0.here hx rfl (pc0 := 36) (pc' := 40) rfl (hb hby d2_36) (by decide) (by decide) k) ?_
          show own_Goes p e below s (own_F2 Z x0 h0) 0 0 (s₁.setTop (mkF m 40 #[.val (.int x0), .val (.int (x0 ||| (32 : Int32))), .val (.int (own_f2_1 x0)), .unset, .unset] [(.int (1 : Int32))]))
          rw [show (own_f2_2 x0) = (1 : Int32) from by simp only [own_f2_2, if_neg hc3, if_pos hc4]] at J13
          exact J13
        · refine own_Goes.step (fun t k => XS.icmpYes X0.here hx rfl (pc0 := 32) (pc' := 39) rfl (hb hby d2_32) rfl (XT.ii_ge_t hc4) (by decide) (by decide) k) ?_
          show own_Goes p e below s (own_F2 Z x0 h0) 0 0 (s₁.setTop (mkF m 39 #[.val (.int x0), .val (.int (x0 ||| (32 : Int32))), .val (.int (own_f2_1 x0)), .unset, .unset] []))
          refine own_Goes.step (fun t k => XT.iconstV X0.here hx rfl (0 : Int32) (hb hby d2_39) (by decide) k) ?_
          show own_Goes p e below s (own_F2 Z x0 h0) 0 0 (s₁.setTop (mkF m 40 #[.val (.int x0), .val (.int (x0 ||| (32 : Int32))), .val (.int (own_f2_1 x0)), .unset, .unset] [(.int (0 : Int32))]))
          rw [show (own_f2_2 x0) = (0 : Int32) from by simp only [own_f2_2, if_neg hc3, if_neg hc4]] at J13
          exact J13
    by_cases hc1 : (x0 ||| (32 : Int32)) < (97 : Int32)
    · refine own_Goes.step (fun t k => XS.icmpYes X0.here hx rfl (pc0 := 8) (pc' := 21) rfl (hb hby d2_8) rfl (XT.ii_lt_t hc1) (by decide) (by decide) k) ?_
      show own_Goes p e below s (own_F2 Z x0 h0) 0 0 (s₁.setTop (mkF m 21 #[.val (.int x0), .val (.int (x0 ||| (32 : Int32))), .unset, .unset, .unset] []))
      refine own_Goes.step (fun t k => XT.iconstV X0.here hx rfl (0 : Int32) (hb hby d2_21) (by decide) k) ?_
      show own_Goes p e below s (own_F2 Z x0 h0) 0 0 (s₁.setTop (mkF m 22 #[.val (.int x0), .val (.int (x0 ||| (32 : Int32))), .unset, .unset, .unset] [(.int (0 : Int32))]))
      rw [show (own_f2_1 x0) = (0 : Int32) from by simp only [own_f2_1, if_pos hc1]] at J14
      exact J14
    · refine own_Goes.step (fun t k => XS.icmpNo X0.here hx rfl (hb hby d2_8) rfl (XT.ii_lt_f hc1) k) ?_
      show own_Goes p e below s (own_F2 Z x0 h0) 0 0 (s₁.setTop (mkF m 11 #[.val (.int x0), .val (.int (x0 ||| (32 : Int32))), .unset, .unset, .unset] []))
      refine own_Goes.step (fun t k => XS.iloadN X0.here hx rfl (hb hby d2_11) rfl k) ?_
      show own_Goes p e below s (own_F2 Z x0 h0) 0 0 (s₁.setTop (mkF m 12 #[.val (.int x0), .val (.int (x0 ||| (32 : Int32))), .unset, .unset, .unset] [(.int (x0 ||| (32 : Int32)))]))
      refine own_Goes.step (fun t k => XT.bipushV X0.here hx rfl (122 : Int32) (hb hby d2_12) (by decide) k) ?_
      show own_Goes p e below s (own_F2 Z x0 h0) 0 0 (s₁.setTop (mkF m 14 #[.val (.int x0), .val (.int (x0 ||| (32 : Int32))), .unset, .unset, .unset] [(.int (122 : Int32)), (.int (x0 ||| (32 : Int32)))]))
      by_cases hc2 : (122 : Int32) < (x0 ||| (32 : Int32))
      · refine own_Goes.step (fun t k => XS.icmpYes X0.here hx rfl (pc0 := 14) (pc' := 21) rfl (hb hby d2_14) rfl (XT.ii_gt_t hc2) (by decide) (by decide) k) ?_
        show own_Goes p e below s (own_F2 Z x0 h0) 0 0 (s₁.setTop (mkF m 21 #[.val (.int x0), .val (.int (x0 ||| (32 : Int32))), .unset, .unset, .unset] []))
        refine own_Goes.step (fun t k => XT.iconstV X0.here hx rfl (0 : Int32) (hb hby d2_21) (by decide) k) ?_
        show own_Goes p e below s (own_F2 Z x0 h0) 0 0 (s₁.setTop (mkF m 22 #[.val (.int x0), .val (.int (x0 ||| (32 : Int32))), .unset, .unset, .unset] [(.int (0 : Int32))]))
        rw [show (own_f2_1 x0) = (0 : Int32) from by simp only [own_f2_1, if_neg hc1, if_pos hc2]] at J14
        exact J14
      · refine own_Goes.step (fun t k => XS.icmpNo X0.here hx rfl (hb hby d2_14) rfl (XT.ii_gt_f hc2) k) ?_
        show own_Goes p e below s (own_F2 Z x0 h0) 0 0 (s₁.setTop (mkF m 17 #[.val (.int x0), .val (.int (x0 ||| (32 : Int32))), .unset, .unset, .unset] []))
        refine own_Goes.step (fun t k => XT.iconstV X0.here hx rfl (1 : Int32) (hb hby d2_17) (by decide) k) ?_
        show own_Goes p e below s (own_F2 Z x0 h0) 0 0 (s₁.setTop (mkF m 18 #[.val (.int x0), .val (.int (x0 ||| (32 : Int32))), .unset, .unset, .unset] [(.int (1 : Int32))]))
        refine own_Goes.step (fun t k => XS.goto X0.here hx rfl (pc0 := 18) (pc' := 22) rfl (hb hby d2_18) (by decide) (by decide) k) ?_
        show own_Goes p e below s (own_F2 Z x0 h0) 0 0 (s₁.setTop (mkF m 22 #[.val (.int x0), .val (.int (x0 ||| (32 : Int32))), .unset, .unset, .unset] [(.int (1 : Int32))]))
        rw [show (own_f2_1 x0) = (1 : Int32) from by simp only [own_f2_1, if_neg hc1, if_neg hc2]] at J14
        exact J14
  obtain ⟨t2, o2, q1, q2, q3, q4⟩ := hgo
  exact ⟨t2, o2, castTop (ef_2 m x0) q1, q2, q3, q4⟩
theorem d1_0 : decode prog_45_method_9_code 0 = .ok (.iload_n 0, 1) := by decide +kernel
theorem d1_1 : decode prog_45_method_9_code 1 = .ok (.bipush 97, 2) := by decide +kernel
theorem d1_3 : decode prog_45_method_9_code 3 = .ok (.if_icmp .lt 9, 3) := by decide +kernel
theorem d1_6 : decode prog_45_method_9_code 6 = .ok (.iload_n 0, 1) := by decide +kernel
theorem d1_7 : decode prog_45_method_9_code 7 = .ok (.bipush 122, 2) := by decide +kernel
theorem d1_9 : decode prog_45_method_9_code 9 = .ok (.if_icmp .le 51, 3) := by decide +kernel
theorem d1_12 : decode prog_45_method_9_code 12 = .ok (.iload_n 0, 1) := by decide +kernel
theorem d1_13 : decode prog_45_method_9_code 13 = .ok (.bipush 65, 2) := by decide +kernel
theorem d1_15 : decode prog_45_method_9_code 15 = .ok (.if_icmp .lt 9, 3) := by decide +kernel
theorem d1_18 : decode prog_45_method_9_code 18 = .ok (.iload_n 0, 1) := by decide +kernel
theorem d1_19 : decode prog_45_method_9_code 19 = .ok (.bipush 90, 2) := by decide +kernel
theorem d1_21 : decode prog_45_method_9_code 21 = .ok (.if_icmp .le 39, 3) := by decide +kernel
theorem d1_24 : decode prog_45_method_9_code 24 = .ok (.iload_n 0, 1) := by decide +kernel
theorem d1_25 : decode prog_45_method_9_code 25 = .ok (.bipush 48, 2) := by decide +kernel
theorem d1_27 : decode prog_45_method_9_code 27 = .ok (.if_icmp .lt 9, 3) := by decide +kernel
theorem d1_30 : decode prog_45_method_9_code 30 = .ok (.iload_n 0, 1) := by decide +kernel
theorem d1_31 : decode prog_45_method_9_code 31 = .ok (.bipush 57, 2) := by decide +kernel
theorem d1_33 : decode prog_45_method_9_code 33 = .ok (.if_icmp .le 27, 3) := by decide +kernel
theorem d1_36 : decode prog_45_method_9_code 36 = .ok (.iload_n 0, 1) := by decide +kernel
theorem d1_37 : decode prog_45_method_9_code 37 = .ok (.bipush 45, 2) := by decide +kernel
theorem d1_39 : decode prog_45_method_9_code 39 = .ok (.if_icmp .eq 21, 3) := by decide +kernel
theorem d1_42 : decode prog_45_method_9_code 42 = .ok (.iload_n 0, 1) := by decide +kernel
theorem d1_43 : decode prog_45_method_9_code 43 = .ok (.bipush 46, 2) := by decide +kernel
theorem d1_45 : decode prog_45_method_9_code 45 = .ok (.if_icmp .eq 15, 3) := by decide +kernel
theorem d1_48 : decode prog_45_method_9_code 48 = .ok (.iload_n 0, 1) := by decide +kernel
theorem d1_49 : decode prog_45_method_9_code 49 = .ok (.bipush 95, 2) := by decide +kernel
theorem d1_51 : decode prog_45_method_9_code 51 = .ok (.if_icmp .eq 9, 3) := by decide +kernel
theorem d1_54 : decode prog_45_method_9_code 54 = .ok (.iload_n 0, 1) := by decide +kernel
theorem d1_55 : decode prog_45_method_9_code 55 = .ok (.bipush 126, 2) := by decide +kernel
theorem d1_57 : decode prog_45_method_9_code 57 = .ok (.if_icmp .ne 7, 3) := by decide +kernel
theorem d1_60 : decode prog_45_method_9_code 60 = .ok (.iconst 1, 1) := by decide +kernel
theorem d1_61 : decode prog_45_method_9_code 61 = .ok (.goto 4, 3) := by decide +kernel
theorem d1_64 : decode prog_45_method_9_code 64 = .ok (.iconst 0, 1) := by decide +kernel
theorem d1_65 : decode prog_45_method_9_code 65 = .ok (.ireturn, 1) := by decide +kernel
theorem pn_1 : plainName "com/example/librobots/librobots/robots/UrlPaths" = true := by first | (simp [plainName, overriddenIn]; done) | decide +kernel
theorem pd_1 : parseMethodDescriptor "(I)Z" = some ⟨[.int], (some .boolean)⟩ := by decide +kernel
theorem ef_1 (m : MethodId) (x0 : Int32) : entryFrame m #[(.int x0)] 1 = mkF m 0 #[.val (.int x0)] [] := by first | (simp [entryFrame, mkF, argsToLocals, Value.category]; done) | rfl
def own_f1_at60 (x0 : Int32) : Int32 := (1 : Int32)
def own_f1_at36 (x0 : Int32) : Int32 := (if x0 = (45 : Int32) then (own_f1_at60 x0) else (if x0 = (46 : Int32) then (own_f1_at60 x0) else (if x0 = (95 : Int32) then (own_f1_at60 x0) else (if x0 = (126 : Int32) then (own_f1_at60 x0) else (0 : Int32)))))
def own_f1_at24 (x0 : Int32) : Int32 := (if x0 < (48 : Int32) then (own_f1_at36 x0) else (if (57 : Int32) < x0 then (own_f1_at36 x0) else (own_f1_at60 x0)))
def own_f1_at12 (x0 : Int32) : Int32 := (if x0 < (65 : Int32) then (own_f1_at24 x0) else (if (90 : Int32) < x0 then (own_f1_at24 x0) else (own_f1_at60 x0)))
def own_f1 (x0 : Int32) : Int32 := (if x0 < (97 : Int32) then (own_f1_at12 x0) else (if (122 : Int32) < x0 then (own_f1_at12 x0) else (own_f1_at60 x0)))
def own_F1 (Z : State) (x0 : Int32)  (h0 : Heap) (v : Option Value) (h : Heap) (L : List Loc) : Prop := v = some (.int (own_f1 x0)) ∧ L = [] ∧ h = h0
set_option maxRecDepth 65536 in
set_option maxHeartbeats 40000000 in
theorem own_m1 (l : Launch) (Z : State) (a0 : Array Value) (hw : ∀ d ∈ tables_1, d.before a0 Z = true) (ws : List Jvm.Cond) (x0 : Int32)  (h0 : Heap)   :
    MetFree l (⟨"com/example/librobots/librobots/robots/UrlPaths", "isUnreserved", "(I)Z"⟩ : MethodName) (head1 (Jvm.Cond.code (⟨"com/example/librobots/librobots/robots/UrlPaths", "isUnreserved", "(I)Z"⟩ : MethodName) prog_45_method_9_code 1 (some .boolean) :: ws) ({ frames := 0, cells := 0, slots := 0, locals := 0 } : Room)) (fun a U => a = #[(.int x0)] ∧ Z.Warmed39 U.vm ∧ U.heap = h0) (fun _ _ _ _ _ => True) (fun _ U o U' => ∃ v L, o = .returned v ∧ own_F1 Z x0 h0 v U'.heap L ∧ FrameEnd U o U' L ({ frames := 0, cells := 0, slots := 0, locals := 0 } : Room).cells ({ frames := 0, cells := 0, slots := 0, locals := 0 } : Room).slots) := by
  refine MetFree.of_bodySF (plainFor_of_name pn_1) hisR ?_
  intro p e s m args below meth c s₁ Bd hml0 hP hK
  obtain ⟨rfl, hZ, hh⟩ := hP
  have hx := Bd.exec
  have hby := Bd.bytes
  have hml : c.maxLocals = 1 := hml0
  have hown : s.vm.findClass "com/example/librobots/librobots/robots/UrlPaths" = some m.cls := findClass_of_methodNamed Bd.named
  have hnm := (name_of_methodNamed Bd.named Bd.method).1
  have X0 : Stand p l e ({ frames := 0, cells := 0, slots := 0, locals := 0 } : Room) s m #[(.int x0)] below meth c s₁ [] 0 0 := Stand.of_body Bd
  have e0 : s₁.heap = h0 := by rw [← hh, Bd.state]; rfl
  have hgo : own_Goes p e below s (own_F1 Z x0 h0) 0 0 (s₁.setTop (mkF m 0 #[.val (.int x0)] [])) := by
    have J1060 : own_f1 x0 = own_f1_at60 x0 → own_Goes p e below s (own_F1 Z x0 h0) 0 0 (s₁.setTop (mkF m 60 #[.val (.int x0)] [])) := by
      intro hj60
      refine own_Goes.step (fun t k => XT.iconstV X0.here hx rfl (1 : Int32) (hb hby d1_60) (by decide) k) ?_
      show own_Goes p e below s (own_F1 Z x0 h0) 0 0 (s₁.setTop (mkF m 61 #[.val (.int x0)] [(.int (1 : Int32))]))
      refine own_Goes.step (fun t k => XS.goto X0.here hx rfl (pc0 := 61) (pc' := 65) rfl (hb hby d1_61) (by decide) (by decide) k) ?_
      show own_Goes p e below s (own_F1 Z x0 h0) 0 0 (s₁.setTop (mkF m 65 #[.val (.int x0)] [(.int (1 : Int32))]))
      exact own_endN X0 hx Bd.notSynchronized (t := .boolean) Bd.returns (by simp) (hb hby d1_65) ⟨(congrArg (fun z => some (Value.int z)) (show (1 : Int32) = own_f1 x0 from by rw [hj60]; simp only [own_f1_at60])), rfl, e0⟩ (by decide) (by decide)
    have J1036 : own_f1 x0 = own_f1_at36 x0 → own_Goes p e below s (own_F1 Z x0 h0) 0 0 (s₁.setTop (mkF m 36 #[.val (.int x0)] [])) := by
      intro hj36
      refine own_Goes.step (fun t k => XS.iloadN X0.here hx rfl (hb hby d1_36) rfl k) ?_
      show own_Goes p e below s (own_F1 Z x0 h0) 0 0 (s₁.setTop (mkF m 37 #[.val (.int x0)] [(.int x0)]))
      refine own_Goes.step (fun t k => XT.bipushV X0.here hx rfl (45 : Int32) (hb hby d1_37) (by decide) k) ?_
      show own_Goes p e below s (own_F1 Z x0 h0) 0 0 (s₁.setTop (mkF m 39 #[.val (.int x0)] [(.int (45 : Int32)), (.int x0)]))
      by_cases hc1 : x0 = (45 : Int32)
      · refine own_Goes.step (fun t k => XS.icmpYes X0.here hx rfl (pc0 := 39) (pc' := 60) rfl (hb hby d1_39) rfl (XT.ii_eq_t hc1) (by decide) (by decide) k) ?_
        show own_Goes p e below s (own_F1 Z x0 h0) 0 0 (s₁.setTop (mkF m 60 #[.val (.int x0)] []))
        exact J1060 (by rw [hj36]; simp only [own_f1_at36, if_pos hc1])
      · refine own_Goes.step (fun t k => XS.icmpNo X0.here hx rfl (hb hby d1_39) rfl (XT.ii_eq_f hc1) k) ?_
        show own_Goes p e below s (own_F1 Z x0 h0) 0 0 (s₁.setTop (mkF m 42 #[.val (.int x0)] []))
        refine own_Goes.step (fun t k => XS.iloadN X0.here hx rfl (hb hby d1_42) rfl k) ?_
        show own_Goes p e below s (own_F1 Z x0 h0) 0 0 (s₁.setTop (mkF m 43 #[.val (.int x0)] [(.int x0)]))
        refine own_Goes.step (fun t k => XT.bipushV X0.here hx rfl (46 : Int32) (hb hby d1_43) (by decide) k) ?_
        show own_Goes p e below s (own_F1 Z x0 h0) 0 0 (s₁.setTop (mkF m 45 #[.val (.int x0)] [(.int (46 : Int32)), (.int x0)]))
        by_cases hc2 : x0 = (46 : Int32)
        · refine own_Goes.step (fun t k => XS.icmpYes X0.here hx rfl (pc0 := 45) (pc' := 60) rfl (hb hby d1_45) rfl (XT.ii_eq_t hc2) (by decide) (by decide) k) ?_
          show own_Goes p e below s (own_F1 Z x0 h0) 0 0 (s₁.setTop (mkF m 60 #[.val (.int x0)] []))
          exact J1060 (by rw [hj36]; simp only [own_f1_at36, if_neg hc1, if_pos hc2])
        · refine own_Goes.step (fun t k => XS.icmpNo X0.here hx rfl (hb hby d1_45) rfl (XT.ii_eq_f hc2) k) ?_
          show own_Goes p e below s (own_F1 Z x0 h0) 0 0 (s₁.setTop (mkF m 48 #[.val (.int x0)] []))
          refine own_Goes.step (fun t k => XS.iloadN X0.here hx rfl (hb hby d1_48) rfl k) ?_
          show own_Goes p e below s (own_F1 Z x0 h0) 0 0 (s₁.setTop (mkF m 49 #[.val (.int x0)] [(.int x0)]))
          refine own_Goes.step (fun t k => XT.bipushV X0.here hx rfl (95 : Int32) (hb hby d1_49) (by decide) k) ?_
          show own_Goes p e below s (own_F1 Z x0 h0) 0 0 (s₁.setTop (mkF m 51 #[.val (.int x0)] [(.int (95 : Int32)), (.int x0)]))
          by_cases hc3 : x0 = (95 : Int32)
          · refine own_Goes.step (fun t k => XS.icmpYes X0.here hx rfl (pc0 := 51) (pc' := 60) rfl (hb hby d1_51) rfl (XT.ii_eq_t hc3) (by decide) (by decide) k) ?_
            show own_Goes p e below s (own_F1 Z x0 h0) 0 0 (s₁.setTop (mkF m 60 #[.val (.int x0)] []))
            exact J1060 (by rw [hj36]; simp only [own_f1_at36, if_neg hc1, if_neg hc2, if_pos hc3])
          · refine own_Goes.step (fun t k => XS.icmpNo X0.here hx rfl (hb hby d1_51) rfl (XT.ii_eq_f hc3) k) ?_
            show own_Goes p e below s (own_F1 Z x0 h0) 0 0 (s₁.setTop (mkF m 54 #[.val (.int x0)] []))
            refine own_Goes.step (fun t k => XS.iloadN X0.here hx rfl (hb hby d1_54) rfl k) ?_
            show own_Goes p e below s (own_F1 Z x0 h0) 0 0 (s₁.setTop (mkF m 55 #[.val (.int x0)] [(.int x0)]))
            refine own_Goes.step (fun t k => XT.bipushV X0.here hx rfl (126 : Int32) (hb hby d1_55) (by decide) k) ?_
            show own_Goes p e below s (own_F1 Z x0 h0) 0 0 (s₁.setTop (mkF m 57 #[.val (.int x0)] [(.int (126 : Int32)), (.int x0)]))
            by_cases hc4 : x0 = (126 : Int32)
            · refine own_Goes.step (fun t k => XS.icmpNo X0.here hx rfl (hb hby d1_57) rfl (XT.ii_ne_f hc4) k) ?_
              show own_Goes p e below s (own_F1 Z x0 h0) 0 0 (s₁.setTop (mkF m 60 #[.val (.int x0)] []))
              exact J1060 (by rw [hj36]; simp only [own_f1_at36, if_neg hc1, if_neg hc2, if_neg hc3, if_pos hc4])
            · refine own_Goes.step (fun t k => XS.icmpYes X0.here hx rfl (pc0 := 57) (pc' := 64) rfl (hb hby d1_57) rfl (XT.ii_ne_t hc4) (by decide) (by decide) k) ?_
              show own_Goes p e below s (own_F1 Z x0 h0) 0 0 (s₁.setTop (mkF m 64 #[.val (.int x0)] []))
              refine own_Goes.step (fun t k => XT.iconstV X0.here hx rfl (0 : Int32) (hb hby d1_64) (by decide) k) ?_
              show own_Goes p e below s (own_F1 Z x0 h0) 0 0 (s₁.setTop (mkF m 65 #[.val (.int x0)] [(.int (0 : Int32))]))
              exact own_endN X0 hx Bd.notSynchronized (t := .boolean) Bd.returns (by simp) (hb hby d1_65) ⟨(congrArg (fun z => some (Value.int z)) (show (0 : Int32) = own_f1 x0 from by rw [hj36]; simp only [own_f1_at36, if_neg hc1, if_neg hc2, if_neg hc3, if_neg hc4])), rfl, e0⟩ (by decide) (by decide)
    have J1024 : own_f1 x0 = own_f1_at24 x0 → own_Goes p e below s (own_F1 Z x0 h0) 0 0 (s₁.setTop (mkF m 24 #[.val (.int x0)] [])) := by
      intro hj24
      refine own_Goes.step (fun t k => XS.iloadN X0.here hx rfl (hb hby d1_24) rfl k) ?_
      show own_Goes p e below s (own_F1 Z x0 h0) 0 0 (s₁.setTop (mkF m 25 #[.val (.int x0)] [(.int x0)]))
      refine own_Goes.step (fun t k => XT.bipushV X0.here hx rfl (48 : Int32) (hb hby d1_25) (by decide) k) ?_
      show own_Goes p e below s (own_F1 Z x0 h0) 0 0 (s₁.setTop (mkF m 27 #[.val (.int x0)] [(.int (48 : Int32)), (.int x0)]))
      by_cases hc5 : x0 < (48 : Int32)
      · refine own_Goes.step (fun t k => XS.icmpYes X0.here hx rfl (pc0 := 27) (pc' := 36) rfl (hb hby d1_27) rfl (XT.ii_lt_t hc5) (by decide) (by decide) k) ?_
        show own_Goes p e below s (own_F1 Z x0 h0) 0 0 (s₁.setTop (mkF m 36 #[.val (.int x0)] []))
        exact J1036 (by rw [hj24]; simp only [own_f1_at24, if_pos hc5])
      · refine own_Goes.step (fun t k => XS.icmpNo X0.here hx rfl (hb hby d1_27) rfl (XT.ii_lt_f hc5) k) ?_
        show own_Goes p e below s (own_F1 Z x0 h0) 0 0 (s₁.setTop (mkF m 30 #[.val (.int x0)] []))
        refine own_Goes.step (fun t k => XS.iloadN X0.here hx rfl (hb hby d1_30) rfl k) ?_
        show own_Goes p e below s (own_F1 Z x0 h0) 0 0 (s₁.setTop (mkF m 31 #[.val (.int x0)] [(.int x0)]))
        refine own_Goes.step (fun t k => XT.bipushV X0.here hx rfl (57 : Int32) (hb hby d1_31) (by decide) k) ?_
        show own_Goes p e below s (own_F1 Z x0 h0) 0 0 (s₁.setTop (mkF m 33 #[.val (.int x0)] [(.int (57 : Int32)), (.int x0)]))
        by_cases hc6 : (57 : Int32) < x0
        · refine own_Goes.step (fun t k => XS.icmpNo X0.here hx rfl (hb hby d1_33) rfl (XT.ii_le_f hc6) k) ?_
          show own_Goes p e below s (own_F1 Z x0 h0) 0 0 (s₁.setTop (mkF m 36 #[.val (.int x0)] []))
          exact J1036 (by rw [hj24]; simp only [own_f1_at24, if_neg hc5, if_pos hc6])
        · refine own_Goes.step (fun t k => XS.icmpYes X0.here hx rfl (pc0 := 33) (pc' := 60) rfl (hb hby d1_33) rfl (XT.ii_le_t hc6) (by decide) (by decide) k) ?_
          show own_Goes p e below s (own_F1 Z x0 h0) 0 0 (s₁.setTop (mkF m 60 #[.val (.int x0)] []))
          exact J1060 (by rw [hj24]; simp only [own_f1_at24, if_neg hc5, if_neg hc6])
    have J1012 : own_f1 x0 = own_f1_at12 x0 → own_Goes p e below s (own_F1 Z x0 h0) 0 0 (s₁.setTop (mkF m 12 #[.val (.int x0)] [])) := by
      intro hj12
      refine own_Goes.step (fun t k => XS.iloadN X0.here hx rfl (hb hby d1_12) rfl k) ?_
      show own_Goes p e below s (own_F1 Z x0 h0) 0 0 (s₁.setTop (mkF m 13 #[.val (.int x0)] [(.int x0)]))
      refine own_Goes.step (fun t k => XT.bipushV X0.here hx rfl (65 : Int32) (hb hby d1_13) (by decide) k) ?_
      show own_Goes p e below s (own_F1 Z x0 h0) 0 0 (s₁.setTop (mkF m 15 #[.val (.int x0)] [(.int (65 : Int32)), (.int x0)]))
      by_cases hc7 : x0 < (65 : Int32)
      · refine own_Goes.step (fun t k => XS.icmpYes X0.here hx rfl (pc0 := 15) (pc' := 24) rfl (hb hby d1_15) rfl (XT.ii_lt_t hc7) (by decide) (by decide) k) ?_
        show own_Goes p e below s (own_F1 Z x0 h0) 0 0 (s₁.setTop (mkF m 24 #[.val (.int x0)] []))
        exact J1024 (by rw [hj12]; simp only [own_f1_at12, if_pos hc7])
      · refine own_Goes.step (fun t k => XS.icmpNo X0.here hx rfl (hb hby d1_15) rfl (XT.ii_lt_f hc7) k) ?_
        show own_Goes p e below s (own_F1 Z x0 h0) 0 0 (s₁.setTop (mkF m 18 #[.val (.int x0)] []))
        refine own_Goes.step (fun t k => XS.iloadN X0.here hx rfl (hb hby d1_18) rfl k) ?_
        show own_Goes p e below s (own_F1 Z x0 h0) 0 0 (s₁.setTop (mkF m 19 #[.val (.int x0)] [(.int x0)]))
        refine own_Goes.step (fun t k => XT.bipushV X0.here hx rfl (90 : Int32) (hb hby d1_19) (by decide) k) ?_
        show own_Goes p e below s (own_F1 Z x0 h0) 0 0 (s₁.setTop (mkF m 21 #[.val (.int x0)] [(.int (90 : Int32)), (.int x0)]))
        by_cases hc8 : (90 : Int32) < x0
        · refine own_Goes.step (fun t k => XS.icmpNo X0.here hx rfl (hb hby d1_21) rfl (XT.ii_le_f hc8) k) ?_
          show own_Goes p e below s (own_F1 Z x0 h0) 0 0 (s₁.setTop (mkF m 24 #[.val (.int x0)] []))
          exact J1024 (by rw [hj12]; simp only [own_f1_at12, if_neg hc7, if_pos hc8])
        · refine own_Goes.step (fun t k => XS.icmpYes X0.here hx rfl (pc0 := 21) (pc' := 60) rfl (hb hby d1_21) rfl (XT.ii_le_t hc8) (by decide) (by decide) k) ?_
          show own_Goes p e below s (own_F1 Z x0 h0) 0 0 (s₁.setTop (mkF m 60 #[.val (.int x0)] []))
          exact J1060 (by rw [hj12]; simp only [own_f1_at12, if_neg hc7, if_neg hc8])
    refine own_Goes.step (fun t k => XS.iloadN X0.here hx rfl (hb hby d1_0) rfl k) ?_
    show own_Goes p e below s (own_F1 Z x0 h0) 0 0 (s₁.setTop (mkF m 1 #[.val (.int x0)] [(.int x0)]))
    refine own_Goes.step (fun t k => XT.bipushV X0.here hx rfl (97 : Int32) (hb hby d1_1) (by decide) k) ?_
    show own_Goes p e below s (own_F1 Z x0 h0) 0 0 (s₁.setTop (mkF m 3 #[.val (.int x0)] [(.int (97 : Int32)), (.int x0)]))
    by_cases hc9 : x0 < (97 : Int32)
    · refine own_Goes.step (fun t k => XS.icmpYes X0.here hx rfl (pc0 := 3) (pc' := 12) rfl (hb hby d1_3) rfl (XT.ii_lt_t hc9) (by decide) (by decide) k) ?_
      show own_Goes p e below s (own_F1 Z x0 h0) 0 0 (s₁.setTop (mkF m 12 #[.val (.int x0)] []))
      exact J1012 (by simp only [own_f1, if_pos hc9])
    · refine own_Goes.step (fun t k => XS.icmpNo X0.here hx rfl (hb hby d1_3) rfl (XT.ii_lt_f hc9) k) ?_
      show own_Goes p e below s (own_F1 Z x0 h0) 0 0 (s₁.setTop (mkF m 6 #[.val (.int x0)] []))
      refine own_Goes.step (fun t k => XS.iloadN X0.here hx rfl (hb hby d1_6) rfl k) ?_
      show own_Goes p e below s (own_F1 Z x0 h0) 0 0 (s₁.setTop (mkF m 7 #[.val (.int x0)] [(.int x0)]))
      refine own_Goes.step (fun t k => XT.bipushV X0.here hx rfl (122 : Int32) (hb hby d1_7) (by decide) k) ?_
      show own_Goes p e below s (own_F1 Z x0 h0) 0 0 (s₁.setTop (mkF m 9 #[.val (.int x0)] [(.int (122 : Int32)), (.int x0)]))
      by_cases hc10 : (122 : Int32) < x0
      · refine own_Goes.step (fun t k => XS.icmpNo X0.here hx rfl (hb hby d1_9) rfl (XT.ii_le_f hc10) k) ?_
        show own_Goes p e below s (own_F1 Z x0 h0) 0 0 (s₁.setTop (mkF m 12 #[.val (.int x0)] []))
        exact J1012 (by simp only [own_f1, if_neg hc9, if_pos hc10])
      · refine own_Goes.step (fun t k => XS.icmpYes X0.here hx rfl (pc0 := 9) (pc' := 60) rfl (hb hby d1_9) rfl (XT.ii_le_t hc10) (by decide) (by decide) k) ?_
        show own_Goes p e below s (own_F1 Z x0 h0) 0 0 (s₁.setTop (mkF m 60 #[.val (.int x0)] []))
        exact J1060 (by simp only [own_f1, if_neg hc9, if_neg hc10])
  obtain ⟨t2, o2, q1, q2, q3, q4⟩ := hgo
  exact ⟨t2, o2, castTop (ef_1 m x0) q1, q2, q3, q4⟩
theorem pn_0 : plainName "com/example/librobots/librobots/robots/UrlPathsIsUnreservedPinLaw" = true := by first | (simp [plainName, overriddenIn]; done) | decide +kernel
theorem pd_0 : parseMethodDescriptor "(II)Z" = some ⟨[.int, .int], (some .boolean)⟩ := by decide +kernel
theorem ef_0 (m : MethodId) (x0 : Int32) (x1 : Int32) : entryFrame m #[(.int x0), (.int x1)] maxLocals = mkF m 0 #[.val (.int x0), .val (.int x1), .unset, .unset, .unset] [] := by first | (simp [entryFrame, mkF, argsToLocals, Value.category, maxLocals]; done) | rfl
def own_f0_1 (x0 : Int32) (x1 : Int32) : Int32 := (if (own_f1 x0) = (own_f2 x0) then (1 : Int32) else (0 : Int32))
def own_f0_2 (x0 : Int32) (x1 : Int32) : Int32 := (if (own_f1 ((x1 &&& (255 : Int32)) - (64 : Int32))) = (own_f2 ((x1 &&& (255 : Int32)) - (64 : Int32))) then (1 : Int32) else (0 : Int32))
def own_f0 (x0 : Int32) (x1 : Int32) : Int32 := (if (own_f0_1 x0 x1) = (0 : Int32) then (0 : Int32) else (if (own_f0_2 x0 x1) = (0 : Int32) then (0 : Int32) else (1 : Int32)))
def own_F0 (Z : State) (x0 : Int32) (x1 : Int32)  (n0 : Nat) (h0 : Heap) (v : Option Value) (h : Heap) (L : List Loc) : Prop := v = some (.int (own_f0 x0 x1)) ∧ Fr n0 L
set_option maxRecDepth 65536 in
set_option maxHeartbeats 40000000 in
theorem own_m0 (l : Launch) (Z : State) (a0 : Array Value) (hw : ∀ d ∈ tables_1, d.before a0 Z = true) (ws : List Jvm.Cond) (x0 : Int32) (x1 : Int32)  (n0 : Nat) (h0 : Heap) (Z0 : n0 ≤ h0.size)   :
    MetFree l x (head1 (Jvm.Cond.code x code maxLocals ret :: ws) room_1) (fun a U => a = #[(.int x0), (.int x1)] ∧ Z.Warmed39 U.vm ∧ U.heap = h0) (fun _ _ _ _ _ => True) (fun _ U o U' => ∃ v L, o = .returned v ∧ own_F0 Z x0 x1 n0 h0 v U'.heap L ∧ FrameEnd U o U' L room_1.cells room_1.slots) := by
  refine MetFree.of_bodySF (plainFor_of_name pn_0) hisR ?_
  intro p e s m args below meth c s₁ Bd hml0 hP hK
  obtain ⟨rfl, hZ, hh⟩ := hP
  have hx := Bd.exec
  have hby := Bd.bytes
  have hml : c.maxLocals = 5 := hml0
  have hown : s.vm.findClass "com/example/librobots/librobots/robots/UrlPathsIsUnreservedPinLaw" = some m.cls := findClass_of_methodNamed Bd.named
  have hnm := (name_of_methodNamed Bd.named Bd.method).1
  have X0 : Stand p l e room_1 s m #[(.int x0), (.int x1)] below meth c s₁ [] 0 0 := Stand.of_body Bd
  have e0 : s₁.heap = h0 := by rw [← hh, Bd.state]; rfl
  have N0 := Fr.nil n0
  have K0 : Keep h0 h0 [] := Keep.refl h0 []
  have hgo : own_Goes p e below s (own_F0 Z x0 x1 n0 h0) room_1.cells room_1.slots (s₁.setTop (mkF m 0 #[.val (.int x0), .val (.int x1), .unset, .unset, .unset] [])) := by
    refine own_Goes.step (fun t k => XS.iloadN X0.here hx rfl (hb hby at_0) rfl k) ?_
    show own_Goes p e below s (own_F0 Z x0 x1 n0 h0) room_1.cells room_1.slots (s₁.setTop (mkF m 1 #[.val (.int x0), .val (.int x1), .unset, .unset, .unset] [(.int x1)]))
    refine own_Goes.step (fun t k => XT.sipushV X0.here hx rfl (255 : Int32) (hb hby at_1) (by decide) k) ?_
    show own_Goes p e below s (own_F0 Z x0 x1 n0 h0) room_1.cells room_1.slots (s₁.setTop (mkF m 4 #[.val (.int x0), .val (.int x1), .unset, .unset, .unset] [(.int (255 : Int32)), (.int x1)]))
    refine own_Goes.step (fun t k => XS.iand X0.here hx rfl (hb hby at_4) rfl k) ?_
    show own_Goes p e below s (own_F0 Z x0 x1 n0 h0) room_1.cells room_1.slots (s₁.setTop (mkF m 5 #[.val (.int x0), .val (.int x1), .unset, .unset, .unset] [(.int (x1 &&& (255 : Int32)))]))
    refine own_Goes.step (fun t k => XT.bipushV X0.here hx rfl (64 : Int32) (hb hby at_5) (by decide) k) ?_
    show own_Goes p e below s (own_F0 Z x0 x1 n0 h0) room_1.cells room_1.slots (s₁.setTop (mkF m 7 #[.val (.int x0), .val (.int x1), .unset, .unset, .unset] [(.int (64 : Int32)), (.int (x1 &&& (255 : Int32)))]))
    refine own_Goes.step (fun t k => XS.isub X0.here hx rfl (hb hby at_7) rfl k) ?_
    show own_Goes p e below s (own_F0 Z x0 x1 n0 h0) room_1.cells room_1.slots (s₁.setTop (mkF m 8 #[.val (.int x0), .val (.int x1), .unset, .unset, .unset] [(.int ((x1 &&& (255 : Int32)) - (64 : Int32)))]))
    refine own_Goes.step (fun t k => XS.istoreN X0.here hx rfl (hb hby at_8) rfl (l' := #[.val (.int x0), .val (.int x1), .val (.int ((x1 &&& (255 : Int32)) - (64 : Int32))), .unset, .unset]) rfl k) ?_
    show own_Goes p e below s (own_F0 Z x0 x1 n0 h0) room_1.cells room_1.slots (s₁.setTop (mkF m 9 #[.val (.int x0), .val (.int x1), .val (.int ((x1 &&& (255 : Int32)) - (64 : Int32))), .unset, .unset] []))
    refine own_Goes.step (fun t k => XS.iloadN X0.here hx rfl (hb hby at_9) rfl k) ?_
    show own_Goes p e below s (own_F0 Z x0 x1 n0 h0) room_1.cells room_1.slots (s₁.setTop (mkF m 10 #[.val (.int x0), .val (.int x1), .val (.int ((x1 &&& (255 : Int32)) - (64 : Int32))), .unset, .unset] [(.int x0)]))
    obtain ⟨w1, T1, L1, q1, Y1, st1⟩ := own_stat X0 hx hZ e0 hown (hw _ (List.mem_of_getElem? (i := 0) rfl)) (hw _ (List.mem_of_getElem? (i := 1) rfl)) (hw _ (List.mem_of_getElem? (i := 2) rfl)) (hw _ (List.mem_of_getElem? (i := 3) rfl)) (by decide) (own_m1 l Z a0 hw [] x0 h0 ) (by decide) (W := 0) (by decide) (by decide) (by decide) (g := (mkF m 10 #[.val (.int x0), .val (.int x1), .val (.int ((x1 &&& (255 : Int32)) - (64 : Int32))), .unset, .unset] [(.int x0)])) rfl (by rw [hml]; rfl) (argsL := [(.int x0)]) (rest := []) (lenOf pd_1 rfl) rfl (by show 2 * 0 + _ ≤ _; exact Nat.le_of_eq rfl) (hb hby at_10)
    obtain ⟨e1, X1⟩ := own_clean q1 Y1 rfl rfl
    obtain ⟨rfl, -, -⟩ := q1
    refine own_Goes.step st1 ?_
    show own_Goes p e below s (own_F0 Z x0 x1 n0 h0) room_1.cells room_1.slots (T1.setTop (mkF m 13 #[.val (.int x0), .val (.int x1), .val (.int ((x1 &&& (255 : Int32)) - (64 : Int32))), .unset, .unset] [(.int (own_f1 x0))]))
    refine own_Goes.step (fun t k => XS.iloadN X1.here hx rfl (hb hby at_13) rfl k) ?_
    show own_Goes p e below s (own_F0 Z x0 x1 n0 h0) room_1.cells room_1.slots (T1.setTop (mkF m 14 #[.val (.int x0), .val (.int x1), .val (.int ((x1 &&& (255 : Int32)) - (64 : Int32))), .unset, .unset] [(.int x0), (.int (own_f1 x0))]))
    obtain ⟨w2, T2, L2, q2, Y2, st2⟩ := own_stat X1 hx hZ e1 hown (hw _ (List.mem_of_getElem? (i := 4) rfl)) (hw _ (List.mem_of_getElem? (i := 5) rfl)) (hw _ (List.mem_of_getElem? (i := 6) rfl)) (hw _ (List.mem_of_getElem? (i := 7) rfl)) (by decide) (own_m2 l Z a0 hw [] x0 h0 ) (by decide) (W := 1) (by decide) (by decide) (by decide) (g := (mkF m 14 #[.val (.int x0), .val (.int x1), .val (.int ((x1 &&& (255 : Int32)) - (64 : Int32))), .unset, .unset] [(.int x0), (.int (own_f1 x0))])) rfl (by rw [hml]; rfl) (argsL := [(.int x0)]) (rest := [(.int (own_f1 x0))]) (lenOf pd_2 rfl) rfl (by show 2 * 0 + _ ≤ _; exact Nat.le_of_eq rfl) (hb hby at_14)
    obtain ⟨e2, X2⟩ := own_clean q2 Y2 rfl rfl
    obtain ⟨rfl, -, -⟩ := q2
    refine own_Goes.step st2 ?_
    show own_Goes p e below s (own_F0 Z x0 x1 n0 h0) room_1.cells room_1.slots (T2.setTop (mkF m 17 #[.val (.int x0), .val (.int x1), .val (.int ((x1 &&& (255 : Int32)) - (64 : Int32))), .unset, .unset] [(.int (own_f2 x0)), (.int (own_f1 x0))]))
    have J10 : own_Goes p e below s (own_F0 Z x0 x1 n0 h0) room_1.cells room_1.slots (T2.setTop (mkF m 25 #[.val (.int x0), .val (.int x1), .val (.int ((x1 &&& (255 : Int32)) - (64 : Int32))), .unset, .unset] [(.int (own_f0_1 x0 x1))])) := by
      refine own_Goes.step (fun t k => XS.istoreN X2.here hx rfl (hb hby at_25) rfl (l' := #[.val (.int x0), .val (.int x1), .val (.int ((x1 &&& (255 : Int32)) - (64 : Int32))), .val (.int (own_f0_1 x0 x1)), .unset]) rfl k) ?_
      show own_Goes p e below s (own_F0 Z x0 x1 n0 h0) room_1.cells room_1.slots (T2.setTop (mkF m 26 #[.val (.int x0), .val (.int x1), .val (.int ((x1 &&& (255 : Int32)) - (64 : Int32))), .val (.int (own_f0_1 x0 x1)), .unset] []))
      refine own_Goes.step (fun t k => XS.iloadN X2.here hx rfl (hb hby at_26) rfl k) ?_
      show own_Goes p e below s (own_F0 Z x0 x1 n0 h0) room_1.cells room_1.slots (T2.setTop (mkF m 27 #[.val (.int x0), .val (.int x1), .val (.int ((x1 &&& (255 : Int32)) - (64 : Int32))), .val (.int (own_f0_1 x0 x1)), .unset] [(.int ((x1 &&& (255 : Int32)) - (64 : Int32)))]))
      obtain ⟨w4, T4, L4, q4, Y4, st4⟩ := own_stat X2 hx hZ e2 hown (hw _ (List.mem_of_getElem? (i := 0) rfl)) (hw _ (List.mem_of_getElem? (i := 1) rfl)) (hw _ (List.mem_of_getElem? (i := 2) rfl)) (hw _ (List.mem_of_getElem? (i := 3) rfl)) (by decide) (own_m1 l Z a0 hw [] ((x1 &&& (255 : Int32)) - (64 : Int32)) h0 ) (by decide) (W := 0) (by decide) (by decide) (by decide) (g := (mkF m 27 #[.val (.int x0), .val (.int x1), .val (.int ((x1 &&& (255 : Int32)) - (64 : Int32))), .val (.int (own_f0_1 x0 x1)), .unset] [(.int ((x1 &&& (255 : Int32)) - (64 : Int32)))])) rfl (by rw [hml]; rfl) (argsL := [(.int ((x1 &&& (255 : Int32)) - (64 : Int32)))]) (rest := []) (lenOf pd_1 rfl) rfl (by show 2 * 0 + _ ≤ _; exact Nat.le_of_eq rfl) (hb hby at_27)
      obtain ⟨e4, X4⟩ := own_clean q4 Y4 rfl rfl
      obtain ⟨rfl, -, -⟩ := q4
      refine own_Goes.step st4 ?_
      show own_Goes p e below s (own_F0 Z x0 x1 n0 h0) room_1.cells room_1.slots (T4.setTop (mkF m 30 #[.val (.int x0), .val (.int x1), .val (.int ((x1 &&& (255 : Int32)) - (64 : Int32))), .val (.int (own_f0_1 x0 x1)), .unset] [(.int (own_f1 ((x1 &&& (255 : Int32)) - (64 : Int32))))]))
      refine own_Goes.step (fun t k => XS.iloadN X4.here hx rfl (hb hby at_30) rfl k) ?_
      show own_Goes p e below s (own_F0 Z x0 x1 n0 h0) room_1.cells room_1.slots (T4.setTop (mkF m 31 #[.val (.int x0), .val (.int x1), .val (.int ((x1 &&& (255 : Int32)) - (64 : Int32))), .val (.int (own_f0_1 x0 x1)), .unset] [(.int ((x1 &&& (255 : Int32)) - (64 : Int32))), (.int (own_f1 ((x1 &&& (255 : Int32)) - (64 : Int32))))]))
      obtain ⟨w5, T5, L5, q5, Y5, st5⟩ := own_stat X4 hx hZ e4 hown (hw _ (List.mem_of_getElem? (i := 4) rfl)) (hw _ (List.mem_of_getElem? (i := 5) rfl)) (hw _ (List.mem_of_getElem? (i := 6) rfl)) (hw _ (List.mem_of_getElem? (i := 7) rfl)) (by decide) (own_m2 l Z a0 hw [] ((x1 &&& (255 : Int32)) - (64 : Int32)) h0 ) (by decide) (W := 1) (by decide) (by decide) (by decide) (g := (mkF m 31 #[.val (.int x0), .val (.int x1), .val (.int ((x1 &&& (255 : Int32)) - (64 : Int32))), .val (.int (own_f0_1 x0 x1)), .unset] [(.int ((x1 &&& (255 : Int32)) - (64 : Int32))), (.int (own_f1 ((x1 &&& (255 : Int32)) - (64 : Int32))))])) rfl (by rw [hml]; rfl) (argsL := [(.int ((x1 &&& (255 : Int32)) - (64 : Int32)))]) (rest := [(.int (own_f1 ((x1 &&& (255 : Int32)) - (64 : Int32))))]) (lenOf pd_2 rfl) rfl (by show 2 * 0 + _ ≤ _; exact Nat.le_of_eq rfl) (hb hby at_31)
      obtain ⟨e5, X5⟩ := own_clean q5 Y5 rfl rfl
      obtain ⟨rfl, -, -⟩ := q5
      refine own_Goes.step st5 ?_
      show own_Goes p e below s (own_F0 Z x0 x1 n0 h0) room_1.cells room_1.slots (T5.setTop (mkF m 34 #[.val (.int x0), .val (.int x1), .val (.int ((x1 &&& (255 : Int32)) - (64 : Int32))), .val (.int (own_f0_1 x0 x1)), .unset] [(.int (own_f2 ((x1 &&& (255 : Int32)) - (64 : Int32)))), (.int (own_f1 ((x1 &&& (255 : Int32)) - (64 : Int32))))]))
      have J9 : own_Goes p e below s (own_F0 Z x0 x1 n0 h0) room_1.cells room_1.slots (T5.setTop (mkF m 42 #[.val (.int x0), .val (.int x1), .val (.int ((x1 &&& (255 : Int32)) - (64 : Int32))), .val (.int (own_f0_1 x0 x1)), .unset] [(.int (own_f0_2 x0 x1))])) := by
        refine own_Goes.step (fun t k => XS.istore X5.here hx rfl (hb hby at_42) rfl (l' := #[.val (.int x0), .val (.int x1), .val (.int ((x1 &&& (255 : Int32)) - (64 : Int32))), .val (.int (own_f0_1 x0 x1)), .val (.int (own_f0_2 x0 x1))]) rfl k) ?_
        show own_Goes p e below s (own_F0 Z x0 x1 n0 h0) room_1.cells room_1.slots (T5.setTop (mkF m 44 #[.val (.int x0), .val (.int x1), .val (.int ((x1 &&& (255 : Int32)) - (64 : Int32))), .val (.int (own_f0_1 x0 x1)), .val (.int (own_f0_2 x0 x1))] []))
        refine own_Goes.step (fun t k => XS.iloadN X5.here hx rfl (hb hby at_44) rfl k) ?_
        show own_Goes p e below s (own_F0 Z x0 x1 n0 h0) room_1.cells room_1.slots (T5.setTop (mkF m 45 #[.val (.int x0), .val (.int x1), .val (.int ((x1 &&& (255 : Int32)) - (64 : Int32))), .val (.int (own_f0_1 x0 x1)), .val (.int (own_f0_2 x0 x1))] [(.int (own_f0_1 x0 x1))]))
        by_cases hc7 : (own_f0_1 x0 x1) = (0 : Int32)
        · refine own_Goes.step (fun t k => XS.ifYes X5.here hx rfl (pc0 := 45) (pc' := 57) rfl (hb hby at_45) rfl (XT.i0_eq_t hc7) (by decide) (by decide) k) ?_
          show own_Goes p e below s (own_F0 Z x0 x1 n0 h0) room_1.cells room_1.slots (T5.setTop (mkF m 57 #[.val (.int x0), .val (.int x1), .val (.int ((x1 &&& (255 : Int32)) - (64 : Int32))), .val (.int (own_f0_1 x0 x1)), .val (.int (own_f0_2 x0 x1))] []))
          refine own_Goes.step (fun t k => XT.iconstV X5.here hx rfl (0 : Int32) (hb hby at_57) (by decide) k) ?_
          show own_Goes p e below s (own_F0 Z x0 x1 n0 h0) room_1.cells room_1.slots (T5.setTop (mkF m 58 #[.val (.int x0), .val (.int x1), .val (.int ((x1 &&& (255 : Int32)) - (64 : Int32))), .val (.int (own_f0_1 x0 x1)), .val (.int (own_f0_2 x0 x1))] [(.int (0 : Int32))]))
          exact own_endN X5 hx Bd.notSynchronized (t := .boolean) Bd.returns (by simp) (hb hby at_58) ⟨(congrArg (fun z => some (Value.int z)) (show (0 : Int32) = own_f0 x0 x1 from by simp only [own_f0, if_pos hc7])), N0⟩ (by decide) (by decide)
        · refine own_Goes.step (fun t k => XS.ifNo X5.here hx rfl (hb hby at_45) rfl (XT.i0_eq_f hc7) k) ?_
          show own_Goes p e below s (own_F0 Z x0 x1 n0 h0) room_1.cells room_1.slots (T5.setTop (mkF m 48 #[.val (.int x0), .val (.int x1), .val (.int ((x1 &&& (255 : Int32)) - (64 : Int32))), .val (.int (own_f0_1 x0 x1)), .val (.int (own_f0_2 x0 x1))] []))
          refine own_Goes.step (fun t k => XS.iload X5.here hx rfl (hb hby at_48) rfl k) ?_
          show own_Goes p e below s (own_F0 Z x0 x1 n0 h0) room_1.cells room_1.slots (T5.setTop (mkF m 50 #[.val (.int x0), .val (.int x1), .val (.int ((x1 &&& (255 : Int32)) - (64 : Int32))), .val (.int (own_f0_1 x0 x1)), .val (.int (own_f0_2 x0 x1))] [(.int (own_f0_2 x0 x1))]))
          by_cases hc8 : (own_f0_2 x0 x1) = (0 : Int32)
          · refine own_Goes.step (fun t k => XS.ifYes X5.here hx rfl (pc0 := 50) (pc' := 57) rfl (hb hby at_50) rfl (XT.i0_eq_t hc8) (by decide) (by decide) k) ?_
            show own_Goes p e below s (own_F0 Z x0 x1 n0 h0) room_1.cells room_1.slots (T5.setTop (mkF m 57 #[.val (.int x0), .val (.int x1), .val (.int ((x1 &&& (255 : Int32)) - (64 : Int32))), .val (.int (own_f0_1 x0 x1)), .val (.int (own_f0_2 x0 x1))] []))
            refine own_Goes.step (fun t k => XT.iconstV X5.here hx rfl (0 : Int32) (hb hby at_57) (by decide) k) ?_
            show own_Goes p e below s (own_F0 Z x0 x1 n0 h0) room_1.cells room_1.slots (T5.setTop (mkF m 58 #[.val (.int x0), .val (.int x1), .val (.int ((x1 &&& (255 : Int32)) - (64 : Int32))), .val (.int (own_f0_1 x0 x1)), .val (.int (own_f0_2 x0 x1))] [(.int (0 : Int32))]))
            exact own_endN X5 hx Bd.notSynchronized (t := .boolean) Bd.returns (by simp) (hb hby at_58) ⟨(congrArg (fun z => some (Value.int z)) (show (0 : Int32) = own_f0 x0 x1 from by simp only [own_f0, if_neg hc7, if_pos hc8])), N0⟩ (by decide) (by decide)
          · refine own_Goes.step (fun t k => XS.ifNo X5.here hx rfl (hb hby at_50) rfl (XT.i0_eq_f hc8) k) ?_
            show own_Goes p e below s (own_F0 Z x0 x1 n0 h0) room_1.cells room_1.slots (T5.setTop (mkF m 53 #[.val (.int x0), .val (.int x1), .val (.int ((x1 &&& (255 : Int32)) - (64 : Int32))), .val (.int (own_f0_1 x0 x1)), .val (.int (own_f0_2 x0 x1))] []))
            refine own_Goes.step (fun t k => XT.iconstV X5.here hx rfl (1 : Int32) (hb hby at_53) (by decide) k) ?_
            show own_Goes p e below s (own_F0 Z x0 x1 n0 h0) room_1.cells room_1.slots (T5.setTop (mkF m 54 #[.val (.int x0), .val (.int x1), .val (.int ((x1 &&& (255 : Int32)) - (64 : Int32))), .val (.int (own_f0_1 x0 x1)), .val (.int (own_f0_2 x0 x1))] [(.int (1 : Int32))]))
            refine own_Goes.step (fun t k => XS.goto X5.here hx rfl (pc0 := 54) (pc' := 58) rfl (hb hby at_54) (by decide) (by decide) k) ?_
            show own_Goes p e below s (own_F0 Z x0 x1 n0 h0) room_1.cells room_1.slots (T5.setTop (mkF m 58 #[.val (.int x0), .val (.int x1), .val (.int ((x1 &&& (255 : Int32)) - (64 : Int32))), .val (.int (own_f0_1 x0 x1)), .val (.int (own_f0_2 x0 x1))] [(.int (1 : Int32))]))
            exact own_endN X5 hx Bd.notSynchronized (t := .boolean) Bd.returns (by simp) (hb hby at_58) ⟨(congrArg (fun z => some (Value.int z)) (show (1 : Int32) = own_f0 x0 x1 from by simp only [own_f0, if_neg hc7, if_neg hc8])), N0⟩ (by decide) (by decide)
      by_cases hc6 : (own_f1 ((x1 &&& (255 : Int32)) - (64 : Int32))) = (own_f2 ((x1 &&& (255 : Int32)) - (64 : Int32)))
      · refine own_Goes.step (fun t k => XS.icmpNo X5.here hx rfl (hb hby at_34) rfl (XT.ii_ne_f hc6) k) ?_
        show own_Goes p e below s (own_F0 Z x0 x1 n0 h0) room_1.cells room_1.slots (T5.setTop (mkF m 37 #[.val (.int x0), .val (.int x1), .val (.int ((x1 &&& (255 : Int32)) - (64 : Int32))), .val (.int (own_f0_1 x0 x1)), .unset] []))
        refine own_Goes.step (fun t k => XT.iconstV X5.here hx rfl (1 : Int32) (hb hby at_37) (by decide) k) ?_
        show own_Goes p e below s (own_F0 Z x0 x1 n0 h0) room_1.cells room_1.slots (T5.setTop (mkF m 38 #[.val (.int x0), .val (.int x1), .val (.int ((x1 &&& (255 : Int32)) - (64 : Int32))), .val (.int (own_f0_1 x0 x1)), .unset] [(.int (1 : Int32))]))
        refine own_Goes.step (fun t k => XS.goto X5.here hx rfl (pc0 := 38) (pc' := 42) rfl (hb hby at_38) (by decide) (by decide) k) ?_
        show own_Goes p e below s (own_F0 Z x0 x1 n0 h0) room_1.cells room_1.slots (T5.setTop (mkF m 42 #[.val (.int x0), .val (.int x1), .val (.int ((x1 &&& (255 : Int32)) - (64 : Int32))), .val (.int (own_f0_1 x0 x1)), .unset] [(.int (1 : Int32))]))
        rw [show (own_f0_2 x0 x1) = (1 : Int32) from by simp only [own_f0_2, if_pos hc6]] at J9
        exact J9
      · refine own_Goes.step (fun t k => XS.icmpYes X5.here hx rfl (pc0 := 34) (pc' := 41) rfl (hb hby at_34) rfl (XT.ii_ne_t hc6) (by decide) (by decide) k) ?_
        show own_Goes p e below s (own_F0 Z x0 x1 n0 h0) room_1.cells room_1.slots (T5.setTop (mkF m 41 #[.val (.int x0), .val (.int x1), .val (.int ((x1 &&& (255 : Int32)) - (64 : Int32))), .val (.int (own_f0_1 x0 x1)), .unset] []))
        refine own_Goes.step (fun t k => XT.iconstV X5.here hx rfl (0 : Int32) (hb hby at_41) (by decide) k) ?_
        show own_Goes p e below s (own_F0 Z x0 x1 n0 h0) room_1.cells room_1.slots (T5.setTop (mkF m 42 #[.val (.int x0), .val (.int x1), .val (.int ((x1 &&& (255 : Int32)) - (64 : Int32))), .val (.int (own_f0_1 x0 x1)), .unset] [(.int (0 : Int32))]))
        rw [show (own_f0_2 x0 x1) = (0 : Int32) from by simp only [own_f0_2, if_neg hc6]] at J9
        exact J9
    by_cases hc3 : (own_f1 x0) = (own_f2 x0)
    · refine own_Goes.step (fun t k => XS.icmpNo X2.here hx rfl (hb hby at_17) rfl (XT.ii_ne_f hc3) k) ?_
      show own_Goes p e below s (own_F0 Z x0 x1 n0 h0) room_1.cells room_1.slots (T2.setTop (mkF m 20 #[.val (.int x0), .val (.int x1), .val (.int ((x1 &&& (255 : Int32)) - (64 : Int32))), .unset, .unset] []))
      refine own_Goes.step (fun t k => XT.iconstV X2.here hx rfl (1 : Int32) (hb hby at_20) (by decide) k) ?_
      show own_Goes p e below s (own_F0 Z x0 x1 n0 h0) room_1.cells room_1.slots (T2.setTop (mkF m 21 #[.val (.int x0), .val (.int x1), .val (.int ((x1 &&& (255 : Int32)) - (64 : Int32))), .unset, .unset] [(.int (1 : Int32))]))
      refine own_Goes.step (fun t k => XS.goto X2.here hx rfl (pc0 := 21) (pc' := 25) rfl (hb hby at_21) (by decide) (by decide) k) ?_
      show own_Goes p e below s (own_F0 Z x0 x1 n0 h0) room_1.cells room_1.slots (T2.setTop (mkF m 25 #[.val (.int x0), .val (.int x1), .val (.int ((x1 &&& (255 : Int32)) - (64 : Int32))), .unset, .unset] [(.int (1 : Int32))]))
      rw [show (own_f0_1 x0 x1) = (1 : Int32) from by simp only [own_f0_1, if_pos hc3]] at J10
      exact J10
    · refine own_Goes.step (fun t k => XS.icmpYes X2.here hx rfl (pc0 := 17) (pc' := 24) rfl (hb hby at_17) rfl (XT.ii_ne_t hc3) (by decide) (by decide) k) ?_
      show own_Goes p e below s (own_F0 Z x0 x1 n0 h0) room_1.cells room_1.slots (T2.setTop (mkF m 24 #[.val (.int x0), .val (.int x1), .val (.int ((x1 &&& (255 : Int32)) - (64 : Int32))), .unset, .unset] []))
      refine own_Goes.step (fun t k => XT.iconstV X2.here hx rfl (0 : Int32) (hb hby at_24) (by decide) k) ?_
      show own_Goes p e below s (own_F0 Z x0 x1 n0 h0) room_1.cells room_1.slots (T2.setTop (mkF m 25 #[.val (.int x0), .val (.int x1), .val (.int ((x1 &&& (255 : Int32)) - (64 : Int32))), .unset, .unset] [(.int (0 : Int32))]))
      rw [show (own_f0_1 x0 x1) = (0 : Int32) from by simp only [own_f0_1, if_neg hc3]] at J10
      exact J10
  obtain ⟨t2, o2, q1, q2, q3, q4⟩ := hgo
  exact ⟨t2, o2, castTop (ef_0 m x0 x1) q1, q2, q3, q4⟩
theorem own_or_neg (c : Int32) (h : c < 0) : (c ||| (32 : Int32)) < 0 := by
  rw [XT.neg32] at h ⊢
  rw [Int32.toBitVec_or, BitVec.msb_or, h, Bool.true_or]
theorem own_or_ge (c : Int32) (h : 0 ≤ c.toInt) : c.toInt ≤ (c ||| (32 : Int32)).toInt := by
  have hm : ¬ c < 0 := by rw [own_lt32, Int32.toInt_zero]; omega
  have hm2 : ¬ (c ||| (32 : Int32)) < 0 := by
    rw [XT.neg32] at hm ⊢
    rw [Int32.toBitVec_or, BitVec.msb_or]
    simp only [Bool.not_eq_true] at hm
    rw [hm]
    decide
  have e1 : c.toInt = c.toBitVec.toNat := by
    rw [XT.neg32] at hm
    exact BitVec.toInt_eq_toNat_of_msb (by simpa using hm)
  have e2 : (c ||| (32 : Int32)).toInt = (c ||| (32 : Int32)).toBitVec.toNat := by
    rw [XT.neg32] at hm2
    exact BitVec.toInt_eq_toNat_of_msb (by simpa using hm2)
  rw [e1, e2, Int32.toBitVec_or, BitVec.toNat_or]
  exact Int.ofNat_le.mpr Nat.left_le_or
theorem own_low : ∀ k : Fin 128, own_f1 (Int32.ofNat k) = own_f2 (Int32.ofNat k) := by decide +kernel
theorem own_same (c : Int32) : own_f1 c = own_f2 c := by
  by_cases hn : c < 0
  · have ho := own_or_neg c hn
    rw [own_lt32] at hn ho
    have z : (0 : Int32).toInt = 0 := rfl
    have l1 : ∀ k : Int32, 0 < k.toInt → c < k := fun k hk => by rw [own_lt32]; omega
    have l2 : ∀ k : Int32, 0 < k.toInt → ¬ c = k := fun k hk e => by rw [e] at hn; omega
    have l3 : (c ||| (32 : Int32)) < (97 : Int32) := by rw [own_lt32]; have : (97 : Int32).toInt = 97 := rfl; omega
    simp only [own_f1, own_f1_at12, own_f1_at24, own_f1_at36, own_f2, own_f2_1, own_f2_2, own_f2_3, if_pos l3, if_pos (l1 97 (by decide)), if_pos (l1 65 (by decide)), if_pos (l1 48 (by decide)), if_neg (l2 45 (by decide)), if_neg (l2 46 (by decide)), if_neg (l2 95 (by decide)), if_neg (l2 126 (by decide)), if_true]
  · have h0 : 0 ≤ c.toInt := by rw [own_lt32, Int32.toInt_zero] at hn; omega
    by_cases hb : c.toInt < 128
    · exact own_fin32 (P := fun c => own_f1 c = own_f2 c) 128 own_low c h0 hb
    · have ho := own_or_ge c h0
      have l1 : ∀ k : Int32, k.toInt ≤ 128 → ¬ c < k := fun k hk => by rw [own_lt32]; omega
      have l2 : ∀ k : Int32, k.toInt < 128 → ¬ c = k := fun k hk e => by rw [e] at hb; omega
      have l3 : ∀ k : Int32, k.toInt < 128 → k < c := fun k hk => by rw [own_lt32]; omega
      have l4 : ¬ (c ||| (32 : Int32)) < (97 : Int32) := by rw [own_lt32]; have : (97 : Int32).toInt = 97 := rfl; omega
      have l5 : (122 : Int32) < (c ||| (32 : Int32)) := by rw [own_lt32]; have : (122 : Int32).toInt = 122 := rfl; omega
      simp only [own_f1, own_f1_at12, own_f1_at24, own_f1_at36, own_f2, own_f2_1, own_f2_2, own_f2_3, if_neg l4, if_pos l5, if_neg (l1 97 (by decide)), if_neg (l1 65 (by decide)), if_neg (l1 48 (by decide)), if_neg (l1 58 (by decide)), if_pos (l3 122 (by decide)), if_pos (l3 90 (by decide)), if_pos (l3 57 (by decide)), if_neg (l2 45 (by decide)), if_neg (l2 46 (by decide)), if_neg (l2 95 (by decide)), if_neg (l2 126 (by decide)), if_true]
theorem own_law (x0 x1 : Int32) : own_f0 x0 x1 = 1 := by
  have n1 : ¬ (1 : Int32) = 0 := by decide
  simp only [own_f0, own_f0_1, own_f0_2, own_same, if_true, if_neg n1]
set_option maxRecDepth 65536 in
set_option maxHeartbeats 40000000 in
theorem comes_1 {Post : Tables → Env → Array Value → State → Outcome → State → Prop} (hpost : ∀ tb e args s v u, (limb_1_1.after args s (.returned v) u = true ∧ limb_1_2.after args s (.returned v) u = true ∧ True) → FrameEnd s (.returned v) u (Jvm.fieldLocs frame_1_writes args s ++ Jvm.arrayLocs frame_1_arrays args s ++ Jvm.staticLocs frame_1_statics s) 0 0 → Post tb e args s (.returned v) u) :
    ArmFor flags0 classFile x code maxLocals ret World_1 tables_1 room_1 Calls_1 rest_1 Pre_1 Post := by
  intro l hfl _ _ p e ha hc hk s m args below hf hA hF happ hP
  obtain ⟨hcalls, hrest, hpre⟩ := hP
  obtain ⟨-, -, -, hnamed, -, -, -, hat⟩ := (Spec.applies_iff hf).mp happ
  obtain ⟨hg, hn⟩ := and_e (Cond.before_iff.mp (show (Jvm.Cond.and given_1 narrow_1).before args s = true from hpre))
  obtain ⟨hcount, hr0⟩ := and_e hg
  obtain ⟨w0, w1, rfl⟩ : ∃ w0 w1 : Value, args = #[w0, w1] := by
    have hs : args.size = 2 := by simpa [Cond.value, given_1] using hcount
    obtain ⟨L⟩ := args
    match L, hs with
    | [w0, w1], _ => exact ⟨w0, w1, rfl⟩
  have hw := fun d (hd : d ∈ tables_1) => atoms_spec (ws := Jvm.Cond.code x code maxLocals ret :: tables_1) hat d (List.mem_cons_of_mem _ hd)
  obtain ⟨ha0, hr1⟩ := and_e hr0
  obtain ⟨i0, ev0⟩ := is_v ha0
  obtain rfl : w0 = (.int i0) := Option.some.inj ev0
  obtain ⟨i1, ev1⟩ := is_v hr1
  obtain rfl : w1 = (.int i1) := Option.some.inj ev1
  obtain ⟨n, o, h1, h2, h3, _, L, rfl, ⟨rfl, N⟩, hq⟩ := own_m0 l s _ hw tables_1 i0 i1 s.heap.size s.heap (Nat.le_refl _) p e ha hc hk s m _ below hf ((Spec.applies_iff_loose hf).mp happ).1 ⟨rfl, State.Warmed39.refl s, rfl⟩ trivial
  rw [own_law i0 i1] at h3 hq
  refine ⟨n, _, h1, h2, h3, hpost _ _ _ _ _ _ ⟨Cond.after_iff.mpr rfl, Cond.after_iff.mpr (eq_i res_at (Term.int_eval (1)) rfl), trivial⟩ ⟨hq.1, hq.2.1, (hq.2.2.sift fun y hy => Or.inr (N y hy)).mono (by decide) (by decide)⟩⟩
theorem main_1_1 : Claimed_1_1 := comes_1 fun _ _ _ _ _ _ h hF => ⟨h.1, hF⟩
theorem main_1_2 : Claimed_1_2 := comes_1 fun _ _ _ _ _ _ h hF => ⟨h.2.1, hF⟩
end Jvm.Pilot.@@N@@
namespace Jvm.Pilot.@@N@@
open Jvm Jvm.ClassFile Sem Op Lib Jvm.Free Jvm.Stand Jvm.Pilot.@@N@@.Jvm.D
/-! MADE BY PROGRAM (witnessworld.py) out of the Statement's table words and the real class files: 9 classes; the members and pool entries that the words name. The judged class is class 1, her method 2. -/
namespace start1
open Jvm.ClassFile
def u (s : String) : CpInfo := .utf8 (stringToUtf16 s)
/-- a pool by its gaps: so many unusable entries, then the entry; so many at the end -/
def gap : Nat → List CpInfo → List CpInfo
  | 0, r => r
  | n + 1, r => .unusable :: gap n r
def poolList (es : List (Nat × CpInfo)) (last : Nat) : List CpInfo := es.foldr (fun e r => gap e.1 (e.2 :: r)) (gap last [])
def pool (es : List (Nat × CpInfo)) (last : Nat) : Array CpInfo := ⟨poolList es last⟩
def fileOf (pool : Array CpInfo) (this : Nat) (attrs : Array Attribute := #[]) (ms : Array MethodInfo := #[]) (fl : Nat := 33) (sup : Nat := 0) (ifs : Array Nat := #[]) (fds : Array FieldInfo := #[]) : ClassFile where
  minorVersion := 0
  majorVersion := 65
  constantPool := pool
  accessFlags := fl
  thisClass := this
  superClass := sup
  interfaces := ifs
  fields := fds
  methods := ms
  attributes := attrs
def plain (name : String) (sup : Option ClassId) : Class where
  name := name
  kind := .ordinary
  loader := none
  accessFlags := 33
  super := sup
  interfaces := #[]
  cf := none
  fields := #[]
  methods := #[]
  instanceTypes := #[]
  staticTypes := #[]
  resolved := #[]
  callSites := []
  init := .initialized
  statics := none
  mirror := none

def pool0 : Array CpInfo := pool [(5, u "<init>"), (0, u "()V"), (1, .class_ 10), (1, u "java/lang/Object")] 113

def k0m0 : Method := { name := "<init>", desc := "()V", sig := { parameters := [], returnType := none }, accessFlags := 1, code := none }
/-- java/lang/Object -/
def k0 : Class := { plain "java/lang/Object" none with
  accessFlags := 33
  interfaces := #[]
  cf := some (fileOf pool0 8 #[] #[{ accessFlags := 1, nameIndex := 5, descriptorIndex := 6, attributes := #[] }] 33 0 #[] #[])
  fields := #[]
  methods := #[k0m0]
  instanceTypes := #[]
  staticTypes := #[]
  resolved := Array.replicate 124 none
  statics := none }

def pool1 : Array CpInfo := pool [(2, .class_ 4), (1, u "java/lang/Object"), (0, u "<init>"), (0, u "()V"), (0, .methodref 8 9), (0, .class_ 10), (0, .nameAndType 11 12), (0, u "com/example/librobots/librobots/robots/UrlPaths"), (0, u "isUnreserved"), (0, u "(I)Z"), (0, .methodref 14 15), (0, .class_ 16), (0, .nameAndType 17 12), (0, u "com/example/librobots/librobots/robots/UrlPathsIsUnreservedPinLaw"), (0, u "expected"), (3, u "law"), (0, u "(II)Z")] 2

def k1m0 : Method := { name := "<init>", desc := "()V", sig := { parameters := [], returnType := none }, accessFlags := 2, code := none }
def k1c1 : Code := { maxStack := 2, maxLocals := 5, code := method_2_code, exceptionTable := #[], attributes := #[] }
def k1m1 : Method := { name := "expected", desc := "(I)Z", sig := { parameters := [.int], returnType := some .boolean }, accessFlags := 10, code := some k1c1 }
def k1c2 : Code := { maxStack := 2, maxLocals := 5, code := code, exceptionTable := #[], attributes := #[] }
def k1m2 : Method := { name := "law", desc := "(II)Z", sig := { parameters := [.int, .int], returnType := some .boolean }, accessFlags := 9, code := some k1c2 }
/-- com/example/librobots/librobots/robots/UrlPathsIsUnreservedPinLaw -/
def k1 : Class := { plain "com/example/librobots/librobots/robots/UrlPathsIsUnreservedPinLaw" (some 0) with
  accessFlags := 49
  interfaces := #[]
  cf := some (fileOf pool1 14 #[] #[{ accessFlags := 2, nameIndex := 5, descriptorIndex := 6, attributes := #[] }, { accessFlags := 10, nameIndex := 17, descriptorIndex := 12, attributes := #[] }, { accessFlags := 9, nameIndex := 21, descriptorIndex := 22, attributes := #[] }] 49 2 #[] #[])
  fields := #[]
  methods := #[k1m0, k1m1, k1m2]
  instanceTypes := #[]
  staticTypes := #[]
  resolved := Array.replicate 25 none
  statics := none }

def pool2 : Array CpInfo := pool [(1, .class_ 2), (0, u "com/example/librobots/librobots/robots/UrlPaths"), (1, .class_ 6), (1, u "java/lang/Object"), (0, u "<init>"), (0, u "()V"), (56, u "(I)Z"), (51, u "KEPT"), (0, u "[Z"), (5, u "isUnreserved"), (2, u "HEX"), (0, u "[C"), (14, u "SUB_DELIMS"), (0, u "Ljava/lang/String;"), (1, u "RESERVED")] 27

def k2m0 : Method := { name := "<init>", desc := "()V", sig := { parameters := [], returnType := none }, accessFlags := 2, code := none }
def k2c1 : Code := { maxStack := 2, maxLocals := 1, code := prog_45_method_9_code, exceptionTable := #[], attributes := #[] }
def k2m1 : Method := { name := "isUnreserved", desc := "(I)Z", sig := { parameters := [.int], returnType := some .boolean }, accessFlags := 8, code := some k2c1 }
/-- com/example/librobots/librobots/robots/UrlPaths -/
def k2 : Class := { plain "com/example/librobots/librobots/robots/UrlPaths" (some 0) with
  accessFlags := 49
  interfaces := #[]
  cf := some (fileOf pool2 1 #[] #[{ accessFlags := 2, nameIndex := 7, descriptorIndex := 8, attributes := #[] }, { accessFlags := 8, nameIndex := 124, descriptorIndex := 65, attributes := #[] }] 49 4 #[] #[{ accessFlags := 26, nameIndex := 143, descriptorIndex := 144, attributes := #[] }, { accessFlags := 26, nameIndex := 146, descriptorIndex := 144, attributes := #[] }, { accessFlags := 26, nameIndex := 127, descriptorIndex := 128, attributes := #[] }, { accessFlags := 26, nameIndex := 117, descriptorIndex := 118, attributes := #[] }])
  fields := #[{ name := "SUB_DELIMS", type := (.object "java/lang/String"), accessFlags := 26, slot := 0, constantValue := 0 }, { name := "RESERVED", type := (.object "java/lang/String"), accessFlags := 26, slot := 1, constantValue := 0 }, { name := "HEX", type := (.array .char), accessFlags := 26, slot := 2, constantValue := 0 }, { name := "KEPT", type := (.array .boolean), accessFlags := 26, slot := 3, constantValue := 0 }]
  methods := #[k2m0, k2m1]
  instanceTypes := #[]
  staticTypes := #[(.object "java/lang/String"), (.object "java/lang/String"), (.array .char), (.array .boolean)]
  resolved := Array.replicate 174 none
  statics := none }

def pool3 : Array CpInfo := pool [(1, u "java/lang/Cloneable"), (0, .class_ 1), (0, u "java/lang/Object"), (0, .class_ 3)] 3

/-- java/lang/Cloneable -/
def k3 : Class := { plain "java/lang/Cloneable" (some 0) with
  accessFlags := 1537
  interfaces := #[]
  cf := some (fileOf pool3 2 #[] #[] 1537 4 #[] #[])
  fields := #[]
  methods := #[]
  instanceTypes := #[]
  staticTypes := #[]
  resolved := Array.replicate 8 none
  statics := none }

def pool4 : Array CpInfo := pool [(1, u "java/io/Serializable"), (0, .class_ 1), (0, u "java/lang/Object"), (0, .class_ 3)] 3

/-- java/io/Serializable -/
def k4 : Class := { plain "java/io/Serializable" (some 0) with
  accessFlags := 1537
  interfaces := #[]
  cf := some (fileOf pool4 2 #[] #[] 1537 4 #[] #[])
  fields := #[]
  methods := #[]
  instanceTypes := #[]
  staticTypes := #[]
  resolved := Array.replicate 8 none
  statics := none }

/-- the primitive byte -/
def k5 : Class := { plain "byte" none with kind := .primitive 'B', accessFlags := 0x411 }
/-- [B -/
def k6 : Class := { plain "[B" (some 0) with kind := .array 5 .byte, interfaces := #[3, 4], accessFlags := 1041 }

/-- the primitive int -/
def k7 : Class := { plain "int" none with kind := .primitive 'I', accessFlags := 0x411 }
/-- [I -/
def k8 : Class := { plain "[I" (some 0) with kind := .array 7 .int, interfaces := #[3, 4], accessFlags := 1041 }

def heap : Heap := #[]
def classes : Array Class := #[k0, k1, k2, k3, k4, k5, k6, k7, k8]
def interned : List (Array UInt16 × Addr) := []
def slotsUsed : Nat := 0
def theMethod : MethodId := ⟨1, 2⟩
def args0 : Array Value := #[.int 65, .int 9]
def aboutOver (below : List Frame) : State where
  vm := { classes := classes, interned := interned.toArray }
  heap := heap
  slotsUsed := slotsUsed
  threads := #[{ frames := .invoking theMethod args0 :: below }]
def below0 : List Frame := [.native { method := ⟨0, 0⟩, args := #[] }]
def about1 : State := aboutOver below0
def p0 : Program := .bare "" "" ""
def e0 : Env := launch0.env 0 0 0
theorem w_frames : about1.frames = Frame.invoking theMethod args0 :: below0 := rfl
set_option maxRecDepth 65536 in
theorem w_args : argsFit about1.vm theMethod args0 = true := by decide +kernel
set_option maxRecDepth 65536 in
theorem w_heap : heapFits about1 = true := by decide +kernel
set_option maxRecDepth 65536 in
theorem w_runnable : about1.curStatus? = some .runnable := by decide +kernel
set_option maxRecDepth 65536 in
theorem w_alone : about1.alone = true := by decide +kernel
set_option maxRecDepth 65536 in
theorem w_named : about1.methodNamed? x = some theMethod := by decide +kernel
set_option maxRecDepth 65536 in
theorem w_hears : about1.hears theMethod below0 = true := by decide +kernel
set_option maxRecDepth 65536 in
theorem w_ripe : about1.ripe theMethod args0 below0 = true := by decide +kernel
theorem w_running : about1.status = .running := rfl
set_option maxRecDepth 65536 in
theorem w_room : about1.hasRoom e0.platform room_1 = true :=
  launch0.hasRoom_least _ room_1 (by decide +kernel) (by decide +kernel) (by decide +kernel) (by decide +kernel) (by decide +kernel) (by decide +kernel)
theorem allAtoms_all (ts : List Jvm.Cond) (a : Array Jvm.Value) (st : Jvm.State) : (allAtoms ts).before a st = ts.all (fun c => c.before a st) := by
  induction ts with
  | nil => rfl
  | cons c t ih =>
    show (Jvm.Cond.and c (allAtoms t)).before a st = _
    rw [Jvm.Cond.before_and, ih, List.all_cons]
def words1 : List Jvm.Cond := Jvm.Cond.code x code maxLocals ret :: tables_1
/-- a 'code' word, met by the world's own term for the bytes: nothing is compared byte by byte -/
theorem code_word {y : MethodName} {bytes : ByteArray} {mx : Nat} {rt : Option FieldType} {a : Array Value} {s : State} {m : MethodId} {meth : Method} {c : Code} (h1 : s.methodNamed? y = some m) (h2 : s.vm.method? m = some meth) (h3 : meth.code = some c) (h4 : c.code = bytes)
    (h5 : (c.maxLocals == mx && c.exceptionTable.isEmpty && decide (c.maxStack ≤ mostOperands) && decide (meth.sig.returnType = rt) && !meth.locks && decide (parseMethodDescriptor y.desc = some meth.sig)) = true) : (Jvm.Cond.code y bytes mx rt).before a s = true := by
  simp only [Bool.and_eq_true, beq_iff_eq, Bool.not_eq_true', decide_eq_true_eq] at h5
  obtain ⟨⟨⟨⟨⟨g1, g2⟩, g3⟩, g4⟩, g5⟩, g6⟩ := h5
  simp [Cond.before, Cond.holds, Cond.value, h1, h2, h3, h4, g1, g2, g3, g4, g5, g6]
def isCode : Jvm.Cond → Bool
  | .code _ _ _ _ => true
  | _ => false
theorem all_split {L : List Jvm.Cond} {P : Jvm.Cond → Bool} (h1 : L.all (fun c => isCode c || P c) = true) (h2 : ∀ c ∈ L.filter isCode, P c = true) : L.all P = true := by
  refine List.all_eq_true.mpr fun c hc => ?_
  have h := List.all_eq_true.mp h1 c hc
  rcases Bool.eq_false_or_eq_true (isCode c) with hi | hi
  · exact h2 c (List.mem_filter.mpr ⟨hc, hi⟩)
  · simpa [hi] using h
set_option maxRecDepth 65536 in
theorem w_c0 : (Jvm.Cond.code x code maxLocals ret).before args0 about1 = true := code_word (m := ⟨1, 2⟩) (meth := k1m2) (c := k1c2) (by decide +kernel) rfl rfl rfl (by decide +kernel)
set_option maxRecDepth 65536 in
theorem w_c1 : (Jvm.Cond.code ({ cls := "com/example/librobots/librobots/robots/UrlPaths", name := "isUnreserved", desc := "(I)Z" } : Jvm.MethodName) prog_45_method_9_code (1 : Nat) (Option.some Jvm.ClassFile.FieldType.boolean)).before args0 about1 = true := code_word (m := ⟨2, 1⟩) (meth := k2m1) (c := k2c1) (by decide +kernel) rfl rfl rfl (by decide +kernel)
set_option maxRecDepth 65536 in
theorem w_c2 : (Jvm.Cond.code ({ cls := "com/example/librobots/librobots/robots/UrlPathsIsUnreservedPinLaw", name := "expected", desc := "(I)Z" } : Jvm.MethodName) method_2_code (5 : Nat) (Option.some Jvm.ClassFile.FieldType.boolean)).before args0 about1 = true := code_word (m := ⟨1, 1⟩) (meth := k1m1) (c := k1c1) (by decide +kernel) rfl rfl rfl (by decide +kernel)
def codes1 : List Jvm.Cond := [Jvm.Cond.code x code maxLocals ret, Jvm.Cond.code ({ cls := "com/example/librobots/librobots/robots/UrlPaths", name := "isUnreserved", desc := "(I)Z" } : Jvm.MethodName) prog_45_method_9_code (1 : Nat) (Option.some Jvm.ClassFile.FieldType.boolean), Jvm.Cond.code ({ cls := "com/example/librobots/librobots/robots/UrlPathsIsUnreservedPinLaw", name := "expected", desc := "(I)Z" } : Jvm.MethodName) method_2_code (5 : Nat) (Option.some Jvm.ClassFile.FieldType.boolean)]
set_option maxRecDepth 65536 in
theorem codes_eq : words1.filter isCode = codes1 := rfl
theorem w_codes : ∀ c ∈ words1.filter isCode, c.before args0 about1 = true := by
  rw [codes_eq]
  intro c hc
  simp only [codes1, List.mem_cons, List.not_mem_nil, or_false] at hc
  rcases hc with rfl | rfl | rfl
  · exact w_c0
  · exact w_c1
  · exact w_c2
set_option maxRecDepth 65536 in
theorem w_t1 : words1.all (fun c => isCode c || c.before args0 about1) = true := by decide +kernel
theorem w_tables : (allAtoms (Jvm.Cond.code x code maxLocals ret :: tables_1)).before args0 about1 = true := by
  rw [allAtoms_all]
  show words1.all (fun c => c.before args0 about1) = true
  refine all_split ?_ w_codes
  rw [w_t1]
set_option maxRecDepth 65536 in
theorem w_case : (Jvm.Cond.and given_1 narrow_1).before args0 about1 = true := by decide +kernel
theorem w_applies : (headSpec (Jvm.Cond.code x code maxLocals ret :: tables_1) room_1).applies x e0.platform about1 = true :=
  (Spec.applies_iff w_frames).mpr ⟨w_running, w_runnable, w_alone, w_named, w_hears, w_ripe, w_room, w_tables⟩
theorem atStart : AtStart classFile x code maxLocals ret World_1 tables_1 room_1 Calls_1 rest_1 Pre_1 launch0 p0 e0 about1 theMethod args0 below0 :=
  ⟨lists_1, trivial, launch0.admits_env _ _ _, launch0.least_env, fairChoices_fair.cas, fairChoices_fair.clock, w_frames, w_args, w_heap, w_applies, trivial, trivial, w_case⟩
end start1
theorem witness_1 : WitnessClaimed_1 := ⟨start1.p0, start1.e0, start1.about1, start1.theMethod, start1.args0, start1.below0, start1.atStart⟩
end Jvm.Pilot.@@N@@
