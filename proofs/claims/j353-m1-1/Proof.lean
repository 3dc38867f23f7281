import JvmDerived
import JvmDerived.Pilot.@@N@@Statement
import JvmDerived.Pilot.@@N@@Code
set_option linter.unusedVariables false
set_option linter.unusedSimpArgs false
namespace Jvm.Pilot.@@N@@
open Jvm Jvm.ClassFile Sem Op Lib Jvm.Free Jvm.Stand Jvm.LawKit Jvm.RoadKit Bundle Jvm.Pilot.@@N@@.Jvm.D
section OwnKit
abbrev oU : Slot := .unset
abbrev oS : Slot := .second
abbrev oJ (x : Int64) : Slot := .val (.long x)
abbrev oD (x : UInt64) : Slot := .val (.double x)
variable {p : Program} {l : Launch} {e : Env} {R : Room} {s : State} {m : MethodId} {args : Array Value} {below : List Frame} {meth : Method} {c : Code} {T A B : State} {locs : List Loc} {cells slots : Nat} {G : State → Outcome → Prop} {Q : Option Value → Heap → List Loc → Prop} {C S : Nat} {pc : Nat} {Ls : Array Slot} {rest : List Value}
/-- from A the run ends, and what it leaves is G -/
def own_Go (p : Program) (e : Env) (below : List Frame) (G : State → Outcome → Prop) (A : State) : Prop := ∃ u o, Steps p.tables e below A u ∧ u.status = .running ∧ Ended u below o ∧ G u o
def own_Post (s : State) (Q : Option Value → Heap → List Loc → Prop) (C S : Nat) : State → Outcome → Prop := fun u o => ∃ v L, o = .returned v ∧ Q v u.heap L ∧ FrameEnd s o u L C S
def own_PostW (s : State) (Q : Option Value → Heap → List Loc → Prop) (C S : Nat) : State → Outcome → Prop := fun u o => ∃ v L, o = .returned v ∧ Q v u.heap L ∧ ReturnedEndW s o u L C S
theorem own_by (k : ∀ t, Steps p.tables e below B t → Steps p.tables e below A t) (h : own_Go p e below G B) : own_Go p e below G A := by
  obtain ⟨u, o, h1, h2⟩ := h
  exact ⟨u, o, k _ h1, h2⟩
theorem own_tr (k : Steps p.tables e below A B) (h : own_Go p e below G B) : own_Go p e below G A := by
  obtain ⟨u, o, h1, h2⟩ := h
  exact ⟨u, o, k.trans h1, h2⟩
theorem own_retI (X : Stand p l e R s m args below meth c T locs cells slots) (hlk : meth.locks = false) (hx : p.tables.exec = Jvm.exec) (hret : meth.sig.returnType = some .int) {z : Int32} (hd : decode c.code pc = .ok (.ireturn, 1)) (hq : Q (some (.int z)) T.heap locs) (hC : cells ≤ C) (hS : slots ≤ S) :
    own_Go p e below (own_Post s Q C S) (T.setTop (mkF m pc Ls (.int z :: rest))) := by
  obtain ⟨fs, hr, hrun, hended, hW, hsame⟩ := X.leave (v := some (.int z)) (fun h => by rw [hret] at h; cases h) hlk
  have hm' : T.vm.method? m = some meth := X.method'
  have hn : narrow .int (.int z) = .int z := rfl
  refine ⟨_, _, ?_, hrun, hended, _, _, rfl, hq, ⟨_, rfl⟩, hW, hsame.mono hC hS⟩
  show Steps p.tables e below (T.setTop { method := m, pc := pc, locals := Ls, stack := _ :: rest, locked := none }) _
  jvm_step X.here [X.here.top, hx, hd, hm', hret, hn]
  first | (intro acts; rw [hr _ acts rfl rfl rfl]) | rw [hr _ _ rfl rfl rfl]
  exact Steps.refl _
theorem own_retN (X : Stand p l e R s m args below meth c T locs cells slots) (hlk : meth.locks = false) (hx : p.tables.exec = Jvm.exec) {t : FieldType} (hret : meth.sig.returnType = some t) (ht : t = .boolean ∨ t = .byte ∨ t = .char ∨ t = .short) {z : Int32} (hd : decode c.code pc = .ok (.ireturn, 1)) (hq : Q (some (.int (nar t z))) T.heap locs) (hC : cells ≤ C) (hS : slots ≤ S) :
    own_Go p e below (own_Post s Q C S) (T.setTop (mkF m pc Ls (.int z :: rest))) := by
  obtain ⟨fs, hr, hrun, hended, hW, hsame⟩ := X.leave (v := some (.int (nar t z))) (fun h => by rw [hret] at h; cases h) hlk
  exact ⟨_, _, retN X hx hret ht hd hr, hrun, hended, _, _, rfl, hq, ⟨_, rfl⟩, hW, hsame.mono hC hS⟩
theorem own_retNW {vm₁ : Vm} (X : Stand p l e R (s.setVm vm₁) m args below meth c T locs cells slots) (hlk : meth.locks = false) (hx : p.tables.exec = Jvm.exec) {t : FieldType} (hret : meth.sig.returnType = some t) (ht : t = .boolean ∨ t = .byte ∨ t = .char ∨ t = .short) {z : Int32} (hd : decode c.code pc = .ok (.ireturn, 1)) {n : Nat} (hSi : s.Since vm₁ n) (hn : n ≤ T.heap.size) (hq : Q (some (.int (nar t z))) T.heap locs) (hC : cells ≤ C) (hS : slots ≤ S) :
    own_Go p e below (own_PostW s Q C S) (T.setTop (mkF m pc Ls (.int z :: rest))) := by
  obtain ⟨fs, hr, hrun, hended, h1, h2, h3, h4⟩ := X.leaveW hSi hn (v := some (.int (nar t z))) (fun h => by rw [hret] at h; cases h) hlk
  exact ⟨_, _, retN X hx hret ht hd hr, hrun, hended, _, _, rfl, hq, h1, h2, h3, h4.mono hC hS⟩
theorem own_retL (X : Stand p l e R s m args below meth c T locs cells slots) (hlk : meth.locks = false) (hx : p.tables.exec = Jvm.exec) (hret : meth.sig.returnType = some .long) {z : Int64} (hd : decode c.code pc = .ok (.lreturn, 1)) (hq : Q (some (.long z)) T.heap locs) (hC : cells ≤ C) (hS : slots ≤ S) :
    own_Go p e below (own_Post s Q C S) (T.setTop (mkF m pc Ls [.long z])) := by
  obtain ⟨fs, hr, hrun, hended, hW, hsame⟩ := X.leave (v := some (.long z)) (fun h => by rw [hret] at h; cases h) hlk
  exact ⟨_, _, retOut X hx (t := .long) (i := .lreturn) hret rfl (Or.inr (Or.inl ⟨rfl, rfl, _, rfl⟩)) hd hr, hrun, hended, _, _, rfl, hq, ⟨_, rfl⟩, hW, hsame.mono hC hS⟩
theorem own_retD (X : Stand p l e R s m args below meth c T locs cells slots) (hlk : meth.locks = false) (hx : p.tables.exec = Jvm.exec) (hret : meth.sig.returnType = some .double) {z : UInt64} (hd : decode c.code pc = .ok (.dreturn, 1)) (hq : Q (some (.double z)) T.heap locs) (hC : cells ≤ C) (hS : slots ≤ S) :
    own_Go p e below (own_Post s Q C S) (T.setTop (mkF m pc Ls [.double z])) := by
  obtain ⟨fs, hr, hrun, hended, hW, hsame⟩ := X.leave (v := some (.double z)) (fun h => by rw [hret] at h; cases h) hlk
  exact ⟨_, _, retOut X hx (t := .double) (i := .dreturn) hret rfl (Or.inr (Or.inr (Or.inl ⟨rfl, rfl, _, rfl⟩))) hd hr, hrun, hended, _, _, rfl, hq, ⟨_, rfl⟩, hW, hsame.mono hC hS⟩
theorem own_retR (X : Stand p l e R s m args below meth c T locs cells slots) (hlk : meth.locks = false) (hx : p.tables.exec = Jvm.exec) {t : FieldType} (hret : meth.sig.returnType = some t) {w : Value} (ht : t.isReference = true) (hn : narrow t w = w) (hw : w.isRef = true) (hd : decode c.code pc = .ok (.areturn, 1)) (hq : Q (some w) T.heap locs) (hC : cells ≤ C) (hS : slots ≤ S) :
    own_Go p e below (own_Post s Q C S) (T.setTop (mkF m pc Ls (w :: rest))) := by
  obtain ⟨fs, hr, hrun, hended, hW, hsame⟩ := X.leave (v := some w) (fun h => by rw [hret] at h; cases h) hlk
  exact ⟨_, _, retOut X hx (t := t) (i := .areturn) hret hn (Or.inr (Or.inr (Or.inr (Or.inr ⟨rfl, ht, hw⟩)))) hd hr, hrun, hended, _, _, rfl, hq, ⟨_, rfl⟩, hW, hsame.mono hC hS⟩
theorem own_retV (X : Stand p l e R s m args below meth c T locs cells slots) (hlk : meth.locks = false) (hx : p.tables.exec = Jvm.exec) (hret : meth.sig.returnType = none) (hd : decode c.code pc = .ok (.return_, 1)) (hq : Q none T.heap locs) (hC : cells ≤ C) (hS : slots ≤ S) :
    own_Go p e below (own_Post s Q C S) (T.setTop (mkF m pc Ls [])) := by
  obtain ⟨fs, hr, hrun, hended, hW, hsame⟩ := X.leave (v := none) (fun _ => rfl) hlk
  exact ⟨_, _, X.returnOut hx hret hd hr, hrun, hended, _, _, rfl, hq, ⟨_, rfl⟩, hW, hsame.mono hC hS⟩
theorem own_nev {Z : State} {h : Heap} {a b : Addr} {C : String} {a0 : Array Value} {n : Nat} {k : ClassId} {ty : FieldType} {z : Int32} {vs : List Value} {dv : Value} (E : Exa Z h a C) (wi : (Jvm.Cond.instantiable C n).before a0 Z = true) (F : Arv Z h b k ty z vs dv) : a ≠ b := by
  obtain ⟨c, A, -⟩ := F
  exact ne_arr E wi A
theorem own_selp {args' : Array Value} {y : MethodName} {n : Nat} (hins : (Jvm.Cond.instantiable y.cls n).before args' s = true) (hpriv : (Jvm.Cond.privateMethod y).before args' s = true) (hinst : (Jvm.Cond.instanceMethod y).before args' s = true) (hy : y.cls ≠ "java/lang/invoke/MethodHandle" ∧ y.cls ≠ "java/lang/invoke/VarHandle") : (Jvm.Cond.selects y.cls y y).before args' s = true := by
  obtain ⟨c, k, hc, hk, -, hniab, -, -⟩ := Cond.instantiable_spec hins
  exact selects_self_of_private hc hk (Bool.or_eq_false_iff.mp hniab).1 (Cond.privateMethod_at hpriv) hinst hy
theorem own_callS (X : Stand p l e R s m args below meth c T locs cells slots) (hx : p.tables.exec = Jvm.exec) {Z : State} {a0 : Array Value} {h : Heap} (hZ : Z.Warmed39 s.vm) {own : String} {index : Nat} {y : MethodName} (hown : s.vm.findClass own = some m.cls) {bytes : ByteArray} {maxL : Nat} {ret : Option FieldType} {rm : Room} {as' : Array Value} {Q : Option Value → Heap → List Loc → Prop} (w1 : (Jvm.Cond.methodLink own index y).before a0 Z = true) (w2 : (Jvm.Cond.static y).before a0 Z = true) (w3 : (Jvm.Cond.initialized y.cls).before a0 Z = true) (w4 : (Jvm.Cond.code y bytes maxL ret).before a0 Z = true) (hy : y.cls ≠ "java/lang/invoke/MethodHandle" ∧ y.cls ≠ "java/lang/invoke/VarHandle")
    (hM : MetFree l y (head1 [Jvm.Cond.code y bytes maxL ret] rm) (fun a U => a = as' ∧ Z.Warmed39 U.vm ∧ U.heap = h) (fun _ _ _ _ _ => True) (fun _ U o U' => ∃ v L, o = .returned v ∧ Q v U'.heap L ∧ FrameEnd U o U' L rm.cells rm.slots)) (eT : T.heap = h) (W : Nat) (hf : rm.frames + 1 ≤ R.frames) (hl : W + (maxL + 11) + rm.locals ≤ R.locals) (hc : cells + rm.cells ≤ R.cells) (hs : slots + rm.slots ≤ R.slots) {g : JFrame} (hg : g.method = m) (hsize : g.locals.size = c.maxLocals) (argsL rest : List Value) (ha : argsL.toArray = as') (hlen : ∀ sig, parseMethodDescriptor y.desc = some sig → argsL.length = sig.parameters.length) (hstack : g.stack = argsL.reverse ++ rest) (hW : 2 * g.monitorRoom + (rest.map fun v => v.category).sum ≤ W) (hd : decode c.code g.pc = .ok (.invokestatic index, 3)) :
    ∃ (T' : State) (L : List Loc) (v : Option Value), Stand p l e R s m args below meth c T' (locs ++ L) (cells + rm.cells) (slots + rm.slots) ∧ Q v T'.heap L ∧ ∀ t, Steps p.tables e below (T'.setTop { g with pc := g.pc + 3, stack := v.toList ++ rest }) t → Steps p.tables e below (T.setTop g) t := by
  obtain ⟨v, _, ⟨T', L', k', n'⟩, -, X', ⟨L, hQ, h2, h3, h4⟩, st⟩ := Jvm.LawKit.callS X hx (y := y) hown (mvT hZ w1) (mvT hZ w2) (mvT hZ w3) (mvT hZ w4) hy (backOf (W := W) hM hZ w4 w3 hf hl) (g := g) hg hsize (argsL := argsL) (rest := rest) hlen hstack hW hd (fun _ _ => ⟨ha, eT, hc, hs⟩)
  dsimp only [Pt.U, Pt.locs, Pt.cells, Pt.slots] at X' h2 h3 h4 st hQ
  subst h2 h3 h4
  exact ⟨T', L, v, X', hQ, st⟩
theorem own_callI (X : Stand p l e R s m args below meth c T locs cells slots) (hx : p.tables.exec = Jvm.exec) {Z : State} {a0 : Array Value} {h : Heap} (hZ : Z.Warmed39 s.vm) {own : String} {index : Nat} {y : MethodName} (hy1 : y.name = "<init>") (hown : s.vm.findClass own = some m.cls) {bytes : ByteArray} {maxL : Nat} {rm : Room} {as' : Array Value} {Q : Option Value → Heap → List Loc → Prop} (w1 : (Jvm.Cond.methodLink own index y).before a0 Z = true) (w2 : (Jvm.Cond.instanceMethod y).before a0 Z = true) (w3 : (Jvm.Cond.initialized y.cls).before a0 Z = true) (w4 : (Jvm.Cond.code y bytes maxL none).before a0 Z = true) (hy : y.cls ≠ "java/lang/invoke/MethodHandle" ∧ y.cls ≠ "java/lang/invoke/VarHandle")
    (hM : MetFree l y (head1 [Jvm.Cond.code y bytes maxL none] rm) (fun a U => a = as' ∧ Z.Warmed39 U.vm ∧ U.heap = h) (fun _ _ _ _ _ => True) (fun _ U o U' => ∃ v L, o = .returned v ∧ Q v U'.heap L ∧ FrameEnd U o U' L rm.cells rm.slots)) (eT : T.heap = h) (W : Nat) (hf : rm.frames + 1 ≤ R.frames) (hl : W + (maxL + 11) + rm.locals ≤ R.locals) (hc : cells + rm.cells ≤ R.cells) (hs : slots + rm.slots ≤ R.slots) {g : JFrame} (hg : g.method = m) (hsize : g.locals.size = c.maxLocals) (a : Addr) (argsL rest : List Value) (ha : (.ref a :: argsL).toArray = as') (hlen : ∀ sig, parseMethodDescriptor y.desc = some sig → argsL.length = sig.parameters.length) (hstack : g.stack = argsL.reverse ++ .ref a :: rest) (hW : 2 * g.monitorRoom + (rest.map fun v => v.category).sum ≤ W) (hd : decode c.code g.pc = .ok (.invokespecial index, 3)) :
    ∃ (T' : State) (L : List Loc) (v : Option Value), Stand p l e R s m args below meth c T' (locs ++ L) (cells + rm.cells) (slots + rm.slots) ∧ Q v T'.heap L ∧ ∀ t, Steps p.tables e below (T'.setTop { g with pc := g.pc + 3, stack := v.toList ++ rest }) t → Steps p.tables e below (T.setTop g) t := by
  obtain ⟨v, _, ⟨T', L', k', n'⟩, -, X', ⟨L, hQ, h2, h3, h4⟩, st⟩ := X.specialBack hx (y := y) hy1 hown (mvT hZ w1) (mvT hZ w2) (mvT hZ w4) hy (backOf (W := W) hM hZ w4 w3 hf hl) (g := g) hg hsize (Steps.refl _) (a := a) (argsL := argsL) (rest := rest) hlen hstack hW hd (fun _ _ => ⟨ha, eT, hc, hs⟩)
  dsimp only [Pt.U, Pt.locs, Pt.cells, Pt.slots] at X' h2 h3 h4 st hQ
  subst h2 h3 h4
  exact ⟨T', L, v, X', hQ, fun t k => st.trans k⟩
theorem own_callP (X : Stand p l e R s m args below meth c T locs cells slots) (hx : p.tables.exec = Jvm.exec) {Z : State} {a0 : Array Value} {h : Heap} (hZ : Z.Warmed39 s.vm) {own C : String} {index n : Nat} {y : MethodName} (hown : s.vm.findClass own = some m.cls) {bytes : ByteArray} {maxL : Nat} {ret : Option FieldType} {rm : Room} {as' : Array Value} {Q : Option Value → Heap → List Loc → Prop} (w1 : (Jvm.Cond.methodLink own index y).before a0 Z = true) (w2 : (Jvm.Cond.instanceMethod y).before a0 Z = true) (w3 : (Jvm.Cond.initialized y.cls).before a0 Z = true) (w4 : (Jvm.Cond.code y bytes maxL ret).before a0 Z = true) (w5 : (Jvm.Cond.privateMethod y).before a0 Z = true) (w6 : (Jvm.Cond.instantiable y.cls n).before a0 Z = true) (hy : y.cls ≠ "java/lang/invoke/MethodHandle" ∧ y.cls ≠ "java/lang/invoke/VarHandle")
    (hM : MetFree l y (head1 [Jvm.Cond.code y bytes maxL ret] rm) (fun a U => a = as' ∧ Z.Warmed39 U.vm ∧ U.heap = h) (fun _ _ _ _ _ => True) (fun _ U o U' => ∃ v L, o = .returned v ∧ Q v U'.heap L ∧ FrameEnd U o U' L rm.cells rm.slots)) (eT : T.heap = h) (W : Nat) (hf : rm.frames + 1 ≤ R.frames) (hl : W + (maxL + 11) + rm.locals ≤ R.locals) (hc : cells + rm.cells ≤ R.cells) (hs : slots + rm.slots ≤ R.slots) {g : JFrame} (hg : g.method = m) (hsize : g.locals.size = c.maxLocals) (a : Addr) (E : Exa Z h a C) (argsL rest : List Value) (ha : (.ref a :: argsL).toArray = as') (hlen : ∀ sig, parseMethodDescriptor y.desc = some sig → argsL.length = sig.parameters.length) (hstack : g.stack = argsL.reverse ++ .ref a :: rest) (hW : 2 * g.monitorRoom + (rest.map fun v => v.category).sum ≤ W) (hd : decode c.code g.pc = .ok (.invokevirtual index, 3)) :
    ∃ (T' : State) (L : List Loc) (v : Option Value), Stand p l e R s m args below meth c T' (locs ++ L) (cells + rm.cells) (slots + rm.slots) ∧ Q v T'.heap L ∧ ∀ t, Steps p.tables e below (T'.setTop { g with pc := g.pc + 3, stack := v.toList ++ rest }) t → Steps p.tables e below (T.setTop g) t := by
  obtain ⟨cq, q1, q2⟩ := E.cell
  obtain ⟨v, _, ⟨T', L', k', n'⟩, -, X', ⟨L, hQ, h2, h3, h4⟩, st⟩ := X.privateBack hx (y := y) hown (mvT hZ w1) (mvT hZ w2) (own_selp (y := y) (mvT hZ w6) (mvP hZ w5) (mvT hZ w2) hy) (Cond.privateMethod_at (mvP hZ w5 (args := #[]))) (mvT hZ w4) hy (backOf (W := W) hM hZ w4 w3 hf hl) (g := g) hg hsize (Steps.refl _) (a := a) (by rw [eT]; exact q1) q2 (argsL := argsL) (rest := rest) hlen hstack hW hd (fun _ _ => ⟨ha, eT, hc, hs⟩)
  dsimp only [Pt.U, Pt.locs, Pt.cells, Pt.slots] at X' h2 h3 h4 st hQ
  subst h2 h3 h4
  exact ⟨T', L, v, X', hQ, fun t k => st.trans k⟩
theorem own_callV (X : Stand p l e R s m args below meth c T locs cells slots) (hx : p.tables.exec = Jvm.exec) {Z : State} {a0 : Array Value} {h : Heap} (hZ : Z.Warmed39 s.vm) {own C : String} {index : Nat} {y z : MethodName} (hown : s.vm.findClass own = some m.cls) {bytes : ByteArray} {maxL : Nat} {ret : Option FieldType} {rm : Room} {as' : Array Value} {Q : Option Value → Heap → List Loc → Prop} (w1 : (Jvm.Cond.methodLink own index y).before a0 Z = true) (w2 : (Jvm.Cond.declares y).before a0 Z = true) (hnf : NotFace s y) (w3 : (Jvm.Cond.selects C y z).before a0 Z = true) (w4 : (Jvm.Cond.instanceMethod z).before a0 Z = true) (w5 : (Jvm.Cond.initialized z.cls).before a0 Z = true) (w6 : (Jvm.Cond.code z bytes maxL ret).before a0 Z = true) (hy : y.cls ≠ "java/lang/invoke/MethodHandle" ∧ y.cls ≠ "java/lang/invoke/VarHandle")
    (hM : MetFree l z (head1 [Jvm.Cond.code z bytes maxL ret] rm) (fun a U => a = as' ∧ Z.Warmed39 U.vm ∧ U.heap = h) (fun _ _ _ _ _ => True) (fun _ U o U' => ∃ v L, o = .returned v ∧ Q v U'.heap L ∧ FrameEnd U o U' L rm.cells rm.slots)) (eT : T.heap = h) (W : Nat) (hf : rm.frames + 1 ≤ R.frames) (hl : W + (maxL + 11) + rm.locals ≤ R.locals) (hc : cells + rm.cells ≤ R.cells) (hs : slots + rm.slots ≤ R.slots) {g : JFrame} (hg : g.method = m) (hsize : g.locals.size = c.maxLocals) (a : Addr) (E : Exa Z h a C) (argsL rest : List Value) (ha : (.ref a :: argsL).toArray = as') (hlen : ∀ sig, parseMethodDescriptor y.desc = some sig → argsL.length = sig.parameters.length) (hstack : g.stack = argsL.reverse ++ .ref a :: rest) (hW : 2 * g.monitorRoom + (rest.map fun v => v.category).sum ≤ W) (hd : decode c.code g.pc = .ok (.invokevirtual index, 3)) :
    ∃ (T' : State) (L : List Loc) (v : Option Value), Stand p l e R s m args below meth c T' (locs ++ L) (cells + rm.cells) (slots + rm.slots) ∧ Q v T'.heap L ∧ ∀ t, Steps p.tables e below (T'.setTop { g with pc := g.pc + 3, stack := v.toList ++ rest }) t → Steps p.tables e below (T.setTop g) t := by
  obtain ⟨cq, kq, qa, qb, qc⟩ := isOf hZ eT E
  obtain ⟨v, _, ⟨T', L', k', n'⟩, -, X', ⟨L, hQ, h2, h3, h4⟩, st⟩ := X.virtualBack hx (y := y) (z := z) hown (mvT hZ w1) (mvT hZ w2) hnf (mvT hZ w3) (mvT hZ w4) hy (backOf (W := W) hM hZ w6 w5 hf hl) qa qc (g := g) hg hsize (Steps.refl _) (argsL := argsL) (rest := rest) hlen hstack hW hd (fun _ _ => ⟨ha, eT, hc, hs⟩)
  dsimp only [Pt.U, Pt.locs, Pt.cells, Pt.slots] at X' h2 h3 h4 st hQ
  subst h2 h3 h4
  exact ⟨T', L, v, X', hQ, fun t k => st.trans k⟩
theorem own_callF (X : Stand p l e R s m args below meth c T locs cells slots) (hx : p.tables.exec = Jvm.exec) {Z : State} {a0 : Array Value} {h : Heap} (hZ : Z.Warmed39 s.vm) {own C : String} {index count : Nat} {y z : MethodName} (hown : s.vm.findClass own = some m.cls) {bytes : ByteArray} {maxL : Nat} {ret : Option FieldType} {rm : Room} {as' : Array Value} {Q : Option Value → Heap → List Loc → Prop} (w1 : (Jvm.Cond.methodLink own index y).before a0 Z = true) (w2 : (Jvm.Cond.declares y).before a0 Z = true) (w3 : (Jvm.Cond.interfaceMethod y.cls y.cls y.name y.desc).before a0 Z = true) (w4 : (Jvm.Cond.selects C y z).before a0 Z = true) (w5 : (Jvm.Cond.instanceMethod z).before a0 Z = true) (w6 : (Jvm.Cond.publicMethod z).before a0 Z = true) (w7 : (Jvm.Cond.unhidden C y.name y.desc).before a0 Z = true) (w8 : (Jvm.Cond.castable C y.cls).before a0 Z = true) (w9 : (Jvm.Cond.initialized z.cls).before a0 Z = true) (w10 : (Jvm.Cond.code z bytes maxL ret).before a0 Z = true) (hy : y.cls ≠ "java/lang/invoke/MethodHandle" ∧ y.cls ≠ "java/lang/invoke/VarHandle")
    (hM : MetFree l z (head1 [Jvm.Cond.code z bytes maxL ret] rm) (fun a U => a = as' ∧ Z.Warmed39 U.vm ∧ U.heap = h) (fun _ _ _ _ _ => True) (fun _ U o U' => ∃ v L, o = .returned v ∧ Q v U'.heap L ∧ FrameEnd U o U' L rm.cells rm.slots)) (eT : T.heap = h) (W : Nat) (hf : rm.frames + 1 ≤ R.frames) (hl : W + (maxL + 11) + rm.locals ≤ R.locals) (hc : cells + rm.cells ≤ R.cells) (hs : slots + rm.slots ≤ R.slots) {g : JFrame} (hg : g.method = m) (hsize : g.locals.size = c.maxLocals) (a : Addr) (E : Exa Z h a C) (argsL rest : List Value) (ha : (.ref a :: argsL).toArray = as') (hlen : ∀ sig, parseMethodDescriptor y.desc = some sig → argsL.length = sig.parameters.length) (hstack : g.stack = argsL.reverse ++ .ref a :: rest) (hW : 2 * g.monitorRoom + (rest.map fun v => v.category).sum ≤ W) (hd : decode c.code g.pc = .ok (.invokeinterface index count, 5)) (hw3 : ((Jvm.Cond.interfaceMethod y.cls y.cls y.name y.desc).onTables && (Jvm.Cond.interfaceMethod y.cls y.cls y.name y.desc).keepsFace) = true := by first | rfl | simp [Cond.onTables, Cond.keepsFace, Cond.keeps, Cond.steady]) :
    ∃ (T' : State) (L : List Loc) (v : Option Value), Stand p l e R s m args below meth c T' (locs ++ L) (cells + rm.cells) (slots + rm.slots) ∧ Q v T'.heap L ∧ ∀ t, Steps p.tables e below (T'.setTop { g with pc := g.pc + 5, stack := v.toList ++ rest }) t → Steps p.tables e below (T.setTop g) t := by
  obtain ⟨cq, kq, qa, qb, qc⟩ := isOf hZ eT E
  obtain ⟨v, _, ⟨T', L', k', n'⟩, -, X', ⟨L, hQ, h2, h3, h4⟩, st⟩ := X.interfaceBack hx (xi := y) (y := z) hown (mvT hZ w1) (mvT hZ w2) (mvT hZ w3 hw3) (mvT hZ w4) (mvT hZ w5) (mvT hZ w6) (mvT hZ w7) (mvT hZ w8) hy (backOf (W := W) hM hZ w10 w9 hf hl) qa qb qc (g := g) hg hsize (Steps.refl _) (argsL := argsL) (rest := rest) hlen hstack hW hd (fun _ _ => ⟨ha, eT, hc, hs⟩)
  dsimp only [Pt.U, Pt.locs, Pt.cells, Pt.slots] at X' h2 h3 h4 st hQ
  subst h2 h3 h4
  exact ⟨T', L, v, X', hQ, fun t k => st.trans k⟩
theorem own_c1 {g g' : JFrame} {h : Heap} (h1 : ∃ T', Stand p l e R s m args below meth c T' locs cells slots ∧ T'.heap = h ∧ ∀ t, Steps p.tables e below (T'.setTop g') t → Steps p.tables e below (T.setTop g) t) (k : ∀ T', Stand p l e R s m args below meth c T' locs cells slots → T'.heap = h → own_Go p e below G (T'.setTop g')) : own_Go p e below G (T.setTop g) := by
  obtain ⟨T', X', e', st⟩ := h1
  exact own_by st (k T' X' e')
theorem own_c2 {g g' : JFrame} {h : Heap} {a : Addr} {sl : Nat} {v : Value} (h1 : ∃ T' h', Stand p l e R s m args below meth c T' (locs ++ [⟨a, sl⟩]) cells slots ∧ T'.heap = h' ∧ Wr h h' a sl v ∧ ∀ t, Steps p.tables e below (T'.setTop g') t → Steps p.tables e below (T.setTop g) t) (k : ∀ T' h', Stand p l e R s m args below meth c T' (locs ++ [⟨a, sl⟩]) cells slots → T'.heap = h' → Wr h h' a sl v → own_Go p e below G (T'.setTop g')) : own_Go p e below G (T.setTop g) := by
  obtain ⟨T', h', X', e', W, st⟩ := h1
  exact own_by st (k T' h' X' e' W)
theorem own_cc {g : JFrame} {c1 s1 : Nat} {Q : Option Value → Heap → List Loc → Prop} {f : Option Value → JFrame} (h1 : ∃ (T' : State) (L : List Loc) (v : Option Value), Stand p l e R s m args below meth c T' (locs ++ L) c1 s1 ∧ Q v T'.heap L ∧ ∀ t, Steps p.tables e below (T'.setTop (f v)) t → Steps p.tables e below (T.setTop g) t) (k : ∀ (T' : State) (L : List Loc) (v : Option Value), Stand p l e R s m args below meth c T' (locs ++ L) c1 s1 → Q v T'.heap L → own_Go p e below G (T'.setTop (f v))) : own_Go p e below G (T.setTop g) := by
  obtain ⟨T', L, v, X', hQ, st⟩ := h1
  exact own_by st (k T' L v X' hQ)
end OwnKit
section OwnDy
open Jvm.FP.Core (Whole val64 Datum Fmt roundRatio b64 signed quotient exactProduct exactSum sumUnits sumSign inUnits natFit good_b64 wide_b64 roundRatio_exact roundRatio_congr whole_sign whole_natAbs whole_product whole_sum whole_round signed_mul)
def own_sh : Datum → Datum
  | .fin s c q => .fin s c (q + 10)
  | d => d
def own_Dy (k : Int) (B : Nat) (a : UInt64) : Prop := Whole k (own_sh (val64 a)) ∧ k.natAbs ≤ B
def own_Di (k : Int) (B : Nat) (a : UInt64) : Prop := Whole k (val64 a) ∧ k.natAbs ≤ B
theorem own_fit {k : Int} (hk : k ≠ 0) (hi : k.natAbs ≤ 2 ^ 53) {s : Bool} {c' : Nat} {q' : Int} (hf : FP.Core.fits b64 (.fin s c' q')) (hv : k.natAbs * 2 ^ (0 - q').toNat = c' * 1 * 2 ^ (q' - 0).toNat) : FP.Core.fits b64 (.fin s c' (q' - 10)) := by
  obtain ⟨h1, h2, h3, h4⟩ := hf
  have e1 : b64.qmin = -1074 := by decide
  have e2 : b64.qmax = 971 := by decide
  have e3 : (2 : Nat) ^ b64.p = 9007199254740992 := by decide
  have p1 : 1 ≤ k.natAbs := by omega
  rw [e3] at h1
  have lo : -53 ≤ q' := by
    apply Int.not_lt.mp
    intro hq
    have a1 : (q' - 0).toNat = 0 := by omega
    have a2 : 2 ^ 53 ≤ 2 ^ (0 - q').toNat := Nat.pow_le_pow_right (by decide) (by omega)
    rw [a1] at hv
    have a3 : 1 * 2 ^ 53 ≤ k.natAbs * 2 ^ (0 - q').toNat := Nat.mul_le_mul p1 a2
    have a4 : (2 : Nat) ^ 53 = 9007199254740992 := by decide
    omega
  refine ⟨by rw [e3]; exact h1, by omega, by omega, Or.inr ?_⟩
  rcases h4 with h4 | h4
  · omega
  · exact h4
theorem own_zero (s : Bool) (q : Int) : Whole 0 (.fin s 0 q) := by
  show signed s (0 * _) = 0 * _
  rw [Nat.zero_mul, Int.zero_mul]; cases s <;> rfl
theorem own_rr {k : Int} (hi : k.natAbs ≤ 2 ^ 53) {s : Bool} (hs : k ≠ 0 → signed s k.natAbs = k) : Whole k (own_sh (roundRatio b64 s k.natAbs 1 (-10))) := by
  by_cases hk : k = 0
  · subst hk
    show Whole 0 (own_sh (roundRatio b64 s 0 1 (-10)))
    unfold roundRatio
    rw [if_pos rfl]
    exact own_zero _ _
  · obtain ⟨c', q', hfit, hv⟩ := natFit good_b64 wide_b64 s (show k.natAbs ≤ 2 ^ b64.p from hi)
    rw [roundRatio_exact good_b64 (show 0 < 1 by decide) (own_fit hk hi hfit hv) (by rw [show (-10 - (q' - 10)).toNat = (0 - q').toNat by omega, show (q' - 10 - -10).toNat = (q' - 0).toNat by omega]; exact hv)]
    show signed s (c' * 2 ^ (q' - 10 + 10).toNat) = k * ((2 ^ (-(q' - 10 + 10)).toNat : Nat) : Int)
    rw [show q' - 10 + 10 = q' by omega]
    rw [show (0 - q').toNat = (-q').toNat by omega, show (q' - 0).toNat = q'.toNat by omega, Nat.mul_one] at hv
    rw [← hv, signed_mul, hs hk]
theorem own_sg {k : Int} {s : Bool} {c : Nat} {q : Int} (h : Whole k (.fin s c q)) (hk : k ≠ 0) : signed s k.natAbs = k := by
  rw [whole_sign h hk]
  unfold signed
  by_cases h : k < 0 <;> simp [h] <;> omega
theorem own_rd {k : Int} (hi : k.natAbs ≤ 2 ^ 53) {d : Datum} (h : Whole k (own_sh d)) : Whole k (own_sh (FP.Core.round b64 d)) := by
  cases d with
  | nan => exact h.elim
  | inf => exact h.elim
  | fin s c q =>
    have h' : Whole k (.fin s c (q + 10)) := h
    have e : FP.Core.round b64 (.fin s c q) = roundRatio b64 s k.natAbs 1 (-10) := by
      refine roundRatio_congr (by decide) (by decide) ?_
      have := whole_natAbs h'
      rw [show (q - -10).toNat = (q + 10).toNat by omega, show (-10 - q).toNat = (-(q + 10)).toNat by omega]
      simpa using this
    rw [e]
    exact own_rr hi (own_sg h')
theorem own_1024 : val64 4652218415073722368 = .fin false (2 ^ 52) (-42) := by decide +kernel
theorem own_nnY {k : Int} {B : Nat} {a : UInt64} (h : own_Dy k B a) : Jvm.Free.Fl.NoNaN64 a := by
  rw [Jvm.Free.Fl.val64_no]
  intro q
  have := h.1
  rw [q] at this
  exact this
theorem own_nnI {k : Int} {B : Nat} {a : UInt64} (h : own_Di k B a) : Jvm.Free.Fl.NoNaN64 a := by
  rw [Jvm.Free.Fl.val64_no]
  intro q
  have := h.1
  rw [q] at this
  exact this
theorem own_ddiv {k : Int} {B : Nat} {a : UInt64} (h : own_Di k B a) (hB : B ≤ 2 ^ 53) : own_Dy k B (FP.ddiv a 4652218415073722368) := by
  refine ⟨?_, h.2⟩
  have h1 := h.1
  rw [show ∀ x y, FP.ddiv x y = FP.Core.ddiv x y from fun _ _ => rfl, FP.Core.val64_ddiv, own_1024]
  cases hd : val64 a with
  | nan => rw [hd] at h1; exact h1.elim
  | inf => rw [hd] at h1; exact h1.elim
  | fin s c q =>
    rw [hd] at h1
    have e : quotient b64 (.fin s c q) (.fin false (2 ^ 52) (-42)) = roundRatio b64 s k.natAbs 1 (-10) := by
      have e0 : quotient b64 (.fin s c q) (.fin false (2 ^ 52) (-42)) = roundRatio b64 (s != false) c (2 ^ 52) (q - -42) := by
        show (if (2 ^ 52 : Nat) = 0 then (if c = 0 then Datum.nan else Datum.inf (s != false)) else roundRatio b64 (s != false) c (2 ^ 52) (q - -42)) = _
        exact if_neg (by decide)
      rw [e0, show (s != false) = s by cases s <;> rfl]
      refine roundRatio_congr (by decide) (by decide) ?_
      have w := whole_natAbs h1
      rw [show (q - -42 - -10).toNat = (q + 52).toNat by omega, show (-10 - (q - -42)).toNat = (-(q + 52)).toNat by omega, Nat.mul_one]
      by_cases hq : 0 ≤ q
      · rw [show (q + 52).toNat = q.toNat + 52 by omega, show (-(q + 52)).toNat = 0 by omega, Nat.pow_add, ← Nat.mul_assoc, w, show (-q).toNat = 0 by omega]
        simp
      · rw [show q.toNat = 0 by omega, Nat.pow_zero, Nat.mul_one] at w
        rw [w]
        by_cases hq2 : -52 ≤ q
        · rw [show (-(q + 52)).toNat = 0 by omega, Nat.mul_assoc, ← Nat.pow_add, show (-q).toNat + (q + 52).toNat = 52 by omega]; simp
        · rw [show (q + 52).toNat = 0 by omega, Nat.pow_zero, Nat.mul_one, Nat.mul_assoc, ← Nat.pow_add, show 52 + (-(q + 52)).toNat = (-q).toNat by omega]
    rw [e]
    exact own_rr (Nat.le_trans h.2 hB) (own_sg h1)
theorem own_dmul {j k : Int} {A B : Nat} {a b : UInt64} (ha : own_Di j A a) (hb : own_Dy k B b) (h : A * B ≤ 2 ^ 53) : own_Dy (j * k) (A * B) (FP.dmul a b) := by
  have hn : (j * k).natAbs ≤ A * B := by rw [Int.natAbs_mul]; exact Nat.mul_le_mul ha.2 hb.2
  refine ⟨?_, hn⟩
  rw [show ∀ x y, FP.dmul x y = FP.Core.dmul x y from fun _ _ => rfl, FP.Core.val64_dmul]
  refine own_rd (Nat.le_trans hn h) ?_
  have e : own_sh (exactProduct (val64 a) (val64 b)) = exactProduct (val64 a) (own_sh (val64 b)) := by
    have h1 := ha.1
    have h2 := hb.1
    cases hx : val64 a with
    | nan => rw [hx] at h1; exact h1.elim
    | inf => rw [hx] at h1; exact h1.elim
    | fin s c q =>
      cases hy : val64 b with
      | nan => rw [hy] at h2; exact h2.elim
      | inf => rw [hy] at h2; exact h2.elim
      | fin t d r =>
        show Datum.fin _ _ (q + r + 10) = Datum.fin _ _ (q + (r + 10))
        rw [Int.add_assoc]
  rw [e]
  exact whole_product ha.1 hb.1
theorem own_dadd {j k : Int} {A B : Nat} {a b : UInt64} (ha : own_Dy j A a) (hb : own_Dy k B b) (h : A + B ≤ 2 ^ 53) : own_Dy (j + k) (A + B) (FP.dadd a b) := by
  have hn : (j + k).natAbs ≤ A + B := by have := ha.2; have := hb.2; omega
  refine ⟨?_, hn⟩
  rw [show ∀ x y, FP.dadd x y = FP.Core.dadd x y from fun _ _ => rfl, FP.Core.val64_dadd]
  refine own_rd (Nat.le_trans hn h) ?_
  have e : own_sh (exactSum (val64 a) (val64 b)) = exactSum (own_sh (val64 a)) (own_sh (val64 b)) := by
    have h1 := ha.1
    have h2 := hb.1
    cases hx : val64 a with
    | nan => rw [hx] at h1; exact h1.elim
    | inf => rw [hx] at h1; exact h1.elim
    | fin s c q =>
      cases hy : val64 b with
      | nan => rw [hy] at h2; exact h2.elim
      | inf => rw [hy] at h2; exact h2.elim
      | fin t d r =>
        have m : min (q + 10) (r + 10) = min q r + 10 := by omega
        have u : sumUnits s c (q + 10) t d (r + 10) (min q r + 10) = sumUnits s c q t d r (min q r) := by
          unfold sumUnits inUnits
          rw [show q + 10 - (min q r + 10) = q - min q r by omega, show r + 10 - (min q r + 10) = r - min q r by omega]
        show Datum.fin (sumSign s t (sumUnits s c q t d r (min q r))) (sumUnits s c q t d r (min q r)).natAbs (min q r + 10) = Datum.fin (sumSign s t (sumUnits s c (q + 10) t d (r + 10) (min (q + 10) (r + 10)))) (sumUnits s c (q + 10) t d (r + 10) (min (q + 10) (r + 10))).natAbs (min (q + 10) (r + 10))
        rw [m, u]
  rw [e]
  exact whole_sum ha.1 hb.1
theorem own_dback {k : Int} {B : Nat} {a : UInt64} (h : own_Dy k B a) (hB : B ≤ 2 ^ 53) : own_Di k B (FP.dmul a 4652218415073722368) := by
  refine ⟨?_, h.2⟩
  have h1 := h.1
  rw [show ∀ x y, FP.dmul x y = FP.Core.dmul x y from fun _ _ => rfl, FP.Core.val64_dmul, own_1024]
  refine whole_round good_b64 wide_b64 (Nat.le_trans h.2 hB) ?_
  cases hd : val64 a with
  | nan => rw [hd] at h1; exact h1.elim
  | inf => rw [hd] at h1; exact h1.elim
  | fin s c q =>
    rw [hd] at h1
    have h2 : signed s (c * 2 ^ (q + 10).toNat) = k * ((2 ^ (-(q + 10)).toNat : Nat) : Int) := h1
    show signed (s != false) (c * 2 ^ 52 * 2 ^ (q + -42).toNat) = k * ((2 ^ (-(q + -42)).toNat : Nat) : Int)
    rw [show (s != false) = s by cases s <;> rfl]
    have p2 : ((2 ^ (-(q + 10)).toNat : Nat) : Int) ≠ 0 := by have := Nat.two_pow_pos (-(q + 10)).toNat; omega
    refine Int.eq_of_mul_eq_mul_right p2 ?_
    rw [← signed_mul]
    have e1 : c * 2 ^ 52 * 2 ^ (q + -42).toNat * 2 ^ (-(q + 10)).toNat = c * 2 ^ (q + 10).toNat * 2 ^ (-(q + -42)).toNat := by
      simp only [Nat.mul_assoc, ← Nat.pow_add]
      rw [show 52 + (q + -42).toNat + (-(q + 10)).toNat = (q + 10).toNat + (-(q + -42)).toNat by omega]
    rw [e1, signed_mul, h2]
    ac_rfl
theorem own_d0 : own_Dy 0 0 0 := ⟨by rw [FP.Core.val64_zero]; exact own_zero _ _, Nat.le_refl _⟩
theorem own_i2d (x : Int32) (B : Nat) (h : x.toInt.natAbs ≤ B) : own_Di x.toInt B (FP.i2d x) := ⟨FP.Core.i2d_int x, h⟩
theorem own_l2d (x : Int64) (B : Nat) (h : x.toInt.natAbs ≤ B) (hB : B ≤ 2 ^ 53) : own_Di x.toInt B (FP.l2d x) := ⟨FP.Core.l2d_int (Nat.le_trans h hB), h⟩
theorem own_dcmp {i j : Int} {A B : Nat} {a b : UInt64} (ha : own_Di i A a) (hb : own_Di j B b) (h : i = j) (o : ClassFile.CmpOp) : cmpValue (FP.dcmp a b) o = 0 := by
  subst h
  rw [show ∀ x y, FP.dcmp x y = FP.Core.dcmp x y from fun _ _ => rfl, FP.Core.dcmp_int ha.1 hb.1]
  have : compare i i = .eq := by simp [compare, compareOfLessAndEq]
  rw [this]
  cases o <;> rfl
theorem own_dz : FP.dconst0 = (0 : UInt64) := by decide +kernel
end OwnDy

theorem own_r (x : Int32) : (x % (1025 : Int32)).toInt.natAbs ≤ 1024 := by
  rw [Int32.toInt_mod, show (1025 : Int32).toInt = 1025 from by decide, Int.natAbs_tmod]
  have := Nat.mod_lt x.toInt.natAbs (show 0 < (1025 : Int).natAbs by decide)
  have e : (1025 : Int).natAbs = 1025 := rfl
  omega
theorem own_w (x : Int32) : x.toInt16.toInt32.toInt.natAbs ≤ 32768 := by
  rw [Int16.toInt_toInt32]
  have h1 := x.toInt16.toInt_lt
  have h2 := x.toInt16.le_toInt
  omega
theorem own_m3 (p : Int32) : (p &&& (3 : Int32)) = (0 : Int32) ∨ (p &&& (3 : Int32)) = (1 : Int32) ∨ (p &&& (3 : Int32)) = (2 : Int32) ∨ (p &&& (3 : Int32)) = (3 : Int32) := by
  have a1 := c_mask p (3 : Int32) 2 (by decide) (by decide)
  generalize p &&& (3 : Int32) = u at *
  have e0 : (0 : Int32).toInt = 0 := by decide
  have e1 : (1 : Int32).toInt = 1 := by decide
  have e2 : (2 : Int32).toInt = 2 := by decide
  have e3 : (3 : Int32).toInt = 3 := by decide
  simp only [← Int32.toInt_inj, e0, e1, e2, e3]
  omega
theorem own_pr (w r : Int32) (hw : w.toInt.natAbs ≤ 32768) (hr : r.toInt.natAbs ≤ 1024) : (w.toInt64 * r.toInt64).toInt = w.toInt * r.toInt ∧ (w.toInt64 * r.toInt64).toInt.natAbs ≤ 33554432 := by
  have hn : (w.toInt * r.toInt).natAbs ≤ 32768 * 1024 := by rw [Int.natAbs_mul]; exact Nat.mul_le_mul hw hr
  have e : (w.toInt64 * r.toInt64).toInt = w.toInt * r.toInt := by
    rw [Int64.toInt_mul, Int32.toInt_toInt64, Int32.toInt_toInt64]
    generalize w.toInt * r.toInt = z at *
    exact Int.bmod_eq_of_le (by omega) (by omega)
  rw [e]
  exact ⟨rfl, hn⟩
theorem own_sm (x y : Int64) (A B : Nat) (hx : x.toInt.natAbs ≤ A) (hy : y.toInt.natAbs ≤ B) (h : A + B ≤ 2 ^ 53) : (x + y).toInt = x.toInt + y.toInt ∧ (x + y).toInt.natAbs ≤ A + B := by
  have e : (x + y).toInt = x.toInt + y.toInt := by
    rw [Int64.toInt_add]
    exact Int.bmod_eq_of_le (by omega) (by omega)
  rw [e]
  exact ⟨rfl, by omega⟩

theorem d1_0 : decode prog_17_method_4_code 0 = .ok (.dconst 0, 1) := by decide +kernel
theorem d1_1 : decode prog_17_method_4_code 1 = .ok (.dstore_n 3, 1) := by decide +kernel
theorem d1_2 : decode prog_17_method_4_code 2 = .ok (.iconst 0, 1) := by decide +kernel
theorem d1_3 : decode prog_17_method_4_code 3 = .ok (.istore 5, 2) := by decide +kernel
theorem d1_5 : decode prog_17_method_4_code 5 = .ok (.iload 5, 2) := by decide +kernel
theorem d1_7 : decode prog_17_method_4_code 7 = .ok (.aload_n 0, 1) := by decide +kernel
theorem d1_8 : decode prog_17_method_4_code 8 = .ok (.arraylength, 1) := by decide +kernel
theorem d1_9 : decode prog_17_method_4_code 9 = .ok (.if_icmp .ge 27, 3) := by decide +kernel
theorem d1_36 : decode prog_17_method_4_code 36 = .ok (.dload_n 3, 1) := by decide +kernel
theorem d1_37 : decode prog_17_method_4_code 37 = .ok (.dreturn, 1) := by decide +kernel
theorem pn_1 : plainName "com/example/rivulet/rivulet/flow/Flow" = true := by first | (simp [plainName, overriddenIn]; done) | decide +kernel
theorem ef_1 (m : MethodId) (x0 : Addr) (x1 : Addr) (x2 : Int32) : entryFrame m #[(.ref x0), (.ref x1), (.int x2)] 6 = mkF m 0 #[rv x0, rv x1, iv x2, oU, oU, oU] [] := by first | (simp [entryFrame, mkF, argsToLocals, Value.category]; done) | rfl
def Q1_0n (Z : State) (ra : Addr) (rb : Addr) (qq : Int32) (ka : ClassId) (kb : ClassId) (h0 : Heap) (n0 : Nat) (v : Option Value) (h : Heap) (L : List Loc) : Prop := ∃ x : UInt64, v = some (.double x) ∧ Fr n0 L ∧ h = h0 ∧ own_Dy 0 0 x
set_option maxRecDepth 65536 in
set_option maxHeartbeats 40000000 in
theorem rm1_0n (l : Launch) (Z : State) (a0 : Array Value) (hw : ∀ d ∈ tables_1, d.before a0 Z = true) (ws : List Jvm.Cond) (ra : Addr) (rb : Addr) (qq : Int32) (ka : ClassId) (kb : ClassId) (h0 : Heap) (n0 : Nat) (Z0 : n0 ≤ h0.size) (V_ra : Arv Z h0 ra ka .double (0 : Int32) [] (.double (0 : UInt64))) (V_rb : Arv Z h0 rb kb .double (0 : Int32) [] (.double (0 : UInt64))) :
    MetFree l (⟨"com/example/rivulet/rivulet/flow/Flow", "expected", "([D[DI)D"⟩ : MethodName) (head1 (Jvm.Cond.code (⟨"com/example/rivulet/rivulet/flow/Flow", "expected", "([D[DI)D"⟩ : MethodName) prog_17_method_4_code 6 (some .double) :: ws) ({ frames := 0, cells := 0, slots := 0, locals := 0 } : Room)) (fun a U => a = #[(.ref ra), (.ref rb), (.int qq)] ∧ Z.Warmed39 U.vm ∧ U.heap = h0) (fun _ _ _ _ _ => True) (fun _ U o U' => ∃ v L, o = .returned v ∧ Q1_0n Z ra rb qq ka kb h0 n0 v U'.heap L ∧ FrameEnd U o U' L ({ frames := 0, cells := 0, slots := 0, locals := 0 } : Room).cells ({ frames := 0, cells := 0, slots := 0, locals := 0 } : Room).slots) := by
  refine MetFree.of_bodySF (plainFor_of_name pn_1) hisR ?_
  intro p e s m args below meth c s₁ Bd hml0 hP hK
  obtain ⟨rfl, hZ, hh⟩ := hP
  have hx := Bd.exec
  have hby := Bd.bytes
  have hml : c.maxLocals = 6 := hml0
  have hown : s.vm.findClass "com/example/rivulet/rivulet/flow/Flow" = some m.cls := findClass_of_methodNamed Bd.named
  have hnm := (name_of_methodNamed Bd.named Bd.method).1
  have X0 : Stand p l e ({ frames := 0, cells := 0, slots := 0, locals := 0 } : Room) s m #[(.ref ra), (.ref rb), (.int qq)] below meth c s₁ [] 0 0 := Stand.of_body Bd
  have e0 : s₁.heap = h0 := by rw [← hh, Bd.state]; rfl
  have N0 := Fr.nil n0
  change own_Go p e below (own_Post s (Q1_0n Z ra rb qq ka kb h0 n0) ({ frames := 0, cells := 0, slots := 0, locals := 0 } : Room).cells ({ frames := 0, cells := 0, slots := 0, locals := 0 } : Room).slots) (s₁.setTop (entryFrame m #[(.ref ra), (.ref rb), (.int qq)] 6))
  refine own_by (fun t k => castTop (ef_1 m ra rb qq) k) ?_
  show own_Go p e below _ (s₁.setTop (mkF m 0 #[rv ra, rv rb, iv qq, oU, oU, oU] []))
  refine own_by (fun t k => XS.dconst0 X0.here hx rfl (hb hby d1_0) own_dz k) ?_
  show own_Go p e below _ (s₁.setTop (mkF m 1 #[rv ra, rv rb, iv qq, oU, oU, oU] [(.double (0 : UInt64))]))
  refine own_by (B := s₁.setTop (mkF m 37 #[rv ra, rv rb, iv qq, oD (0 : UInt64), oS, iv (0 : Int32)] [(.double (0 : UInt64))])) (fun t k => ?_) ?_
  · show Steps p.tables e below (s₁.setTop (mkF m 1 #[rv ra, rv rb, iv qq, oU, oU, oU] [(.double (0 : UInt64))])) _
    refine XS.dstoreN X0.here hx rfl (hb hby d1_1) rfl (l' := #[rv ra, rv rb, iv qq, oD (0 : UInt64), oS, oU]) rfl ?_
    show Steps p.tables e below (s₁.setTop (mkF m 2 #[rv ra, rv rb, iv qq, oD (0 : UInt64), oS, oU] [])) _
    refine XS.iconst X0.here hx rfl (hb hby d1_2) ?_
    show Steps p.tables e below (s₁.setTop (mkF m 3 #[rv ra, rv rb, iv qq, oD (0 : UInt64), oS, oU] [(.int (0 : Int32))])) _
    refine XS.istore X0.here hx rfl (hb hby d1_3) rfl (l' := #[rv ra, rv rb, iv qq, oD (0 : UInt64), oS, iv (0 : Int32)]) rfl ?_
    show Steps p.tables e below (s₁.setTop (mkF m 5 #[rv ra, rv rb, iv qq, oD (0 : UInt64), oS, iv (0 : Int32)] [])) _
    refine XS.iload X0.here hx rfl (hb hby d1_5) rfl ?_
    show Steps p.tables e below (s₁.setTop (mkF m 7 #[rv ra, rv rb, iv qq, oD (0 : UInt64), oS, iv (0 : Int32)] [(.int (0 : Int32))])) _
    refine XS.aloadN X0.here hx rfl (hb hby d1_7) rfl rfl ?_
    show Steps p.tables e below (s₁.setTop (mkF m 8 #[rv ra, rv rb, iv qq, oD (0 : UInt64), oS, iv (0 : Int32)] [(.ref ra), (.int (0 : Int32))])) _
    obtain ⟨cl2, Ar2, -, S2, N2, -, -⟩ := id V_ra
    refine X0.arraylength hx (by rw [show s₁.heap = h0 from e0]; exact Ar2.1) (State.isArrayOf_alike hZ.alike Ar2.2.1) (g := (mkF m 8 #[rv ra, rv rb, iv qq, oD (0 : UInt64), oS, iv (0 : Int32)] [(.ref ra), (.int (0 : Int32))])) rfl rfl (hb hby d1_8) _ ?_
    rw [len_of S2 N2]
    show Steps p.tables e below (s₁.setTop (mkF m 9 #[rv ra, rv rb, iv qq, oD (0 : UInt64), oS, iv (0 : Int32)] [(.int (0 : Int32)), (.int (0 : Int32))])) _
    refine XS.icmpYes X0.here hx rfl (pc0 := 9) (pc' := 36) rfl (hb hby d1_9) rfl (flt (by decide : ¬ ((0 : Int32) < (0 : Int32)))).2.1 (by decide) (by decide) ?_
    show Steps p.tables e below (s₁.setTop (mkF m 36 #[rv ra, rv rb, iv qq, oD (0 : UInt64), oS, iv (0 : Int32)] [])) _
    refine XS.dloadN X0.here hx rfl (hb hby d1_36) rfl ?_
    show Steps p.tables e below (s₁.setTop (mkF m 37 #[rv ra, rv rb, iv qq, oD (0 : UInt64), oS, iv (0 : Int32)] [(.double (0 : UInt64))])) _
    exact k
  exact own_retD X0 Bd.notSynchronized hx Bd.returns (hb hby d1_37) (by
      try rw [show s₁.heap = h0 from e0]
      exact ⟨(0 : UInt64), rfl, N0, rfl, own_d0⟩) (by decide) (by decide)

theorem d1_12 : decode prog_17_method_4_code 12 = .ok (.iload 5, 2) := by decide +kernel
theorem d1_14 : decode prog_17_method_4_code 14 = .ok (.iload_n 2, 1) := by decide +kernel
theorem d1_15 : decode prog_17_method_4_code 15 = .ok (.if_icmp .eq 15, 3) := by decide +kernel
theorem d1_18 : decode prog_17_method_4_code 18 = .ok (.dload_n 3, 1) := by decide +kernel
theorem d1_19 : decode prog_17_method_4_code 19 = .ok (.aload_n 1, 1) := by decide +kernel
theorem d1_20 : decode prog_17_method_4_code 20 = .ok (.iload 5, 2) := by decide +kernel
theorem d1_22 : decode prog_17_method_4_code 22 = .ok (.daload, 1) := by decide +kernel
theorem d1_23 : decode prog_17_method_4_code 23 = .ok (.aload_n 0, 1) := by decide +kernel
theorem d1_24 : decode prog_17_method_4_code 24 = .ok (.iload 5, 2) := by decide +kernel
theorem d1_26 : decode prog_17_method_4_code 26 = .ok (.daload, 1) := by decide +kernel
theorem d1_27 : decode prog_17_method_4_code 27 = .ok (.dmul, 1) := by decide +kernel
theorem d1_28 : decode prog_17_method_4_code 28 = .ok (.dadd, 1) := by decide +kernel
theorem d1_29 : decode prog_17_method_4_code 29 = .ok (.dstore_n 3, 1) := by decide +kernel
theorem d1_30 : decode prog_17_method_4_code 30 = .ok (.iinc 5 1, 3) := by decide +kernel
theorem d1_33 : decode prog_17_method_4_code 33 = .ok (.goto (-28), 3) := by decide +kernel
def Q1_1n (Z : State) (ra : Addr) (rb : Addr) (qq : Int32) (ka : ClassId) (kb : ClassId) (rd0 : UInt64) (we0 : UInt64) (rk0 : Int) (wj0 : Int) (h0 : Heap) (n0 : Nat) (v : Option Value) (h : Heap) (L : List Loc) : Prop := ∃ x : UInt64, v = some (.double x) ∧ Fr n0 L ∧ h = h0 ∧ own_Dy (0 + (wj0 * rk0)) 33554432 x
set_option maxRecDepth 65536 in
set_option maxHeartbeats 40000000 in
theorem rm1_1n (l : Launch) (Z : State) (a0 : Array Value) (hw : ∀ d ∈ tables_1, d.before a0 Z = true) (ws : List Jvm.Cond) (ra : Addr) (rb : Addr) (qq : Int32) (ka : ClassId) (kb : ClassId) (rd0 : UInt64) (we0 : UInt64) (rk0 : Int) (wj0 : Int) (h0 : Heap) (n0 : Nat) (Z0 : n0 ≤ h0.size) (V_ra : Arv Z h0 ra ka .double (1 : Int32) [(.double rd0)] (.double (0 : UInt64))) (V_rb : Arv Z h0 rb kb .double (1 : Int32) [(.double we0)] (.double (0 : UInt64))) (Yd0 : own_Dy rk0 1024 rd0) (Ye0 : own_Di wj0 32768 we0) (hq0 : ¬ ((0 : Int32) = qq)) :
    MetFree l (⟨"com/example/rivulet/rivulet/flow/Flow", "expected", "([D[DI)D"⟩ : MethodName) (head1 (Jvm.Cond.code (⟨"com/example/rivulet/rivulet/flow/Flow", "expected", "([D[DI)D"⟩ : MethodName) prog_17_method_4_code 6 (some .double) :: ws) ({ frames := 0, cells := 0, slots := 0, locals := 0 } : Room)) (fun a U => a = #[(.ref ra), (.ref rb), (.int qq)] ∧ Z.Warmed39 U.vm ∧ U.heap = h0) (fun _ _ _ _ _ => True) (fun _ U o U' => ∃ v L, o = .returned v ∧ Q1_1n Z ra rb qq ka kb rd0 we0 rk0 wj0 h0 n0 v U'.heap L ∧ FrameEnd U o U' L ({ frames := 0, cells := 0, slots := 0, locals := 0 } : Room).cells ({ frames := 0, cells := 0, slots := 0, locals := 0 } : Room).slots) := by
  refine MetFree.of_bodySF (plainFor_of_name pn_1) hisR ?_
  intro p e s m args below meth c s₁ Bd hml0 hP hK
  obtain ⟨rfl, hZ, hh⟩ := hP
  have hx := Bd.exec
  have hby := Bd.bytes
  have hml : c.maxLocals = 6 := hml0
  have hown : s.vm.findClass "com/example/rivulet/rivulet/flow/Flow" = some m.cls := findClass_of_methodNamed Bd.named
  have hnm := (name_of_methodNamed Bd.named Bd.method).1
  have X0 : Stand p l e ({ frames := 0, cells := 0, slots := 0, locals := 0 } : Room) s m #[(.ref ra), (.ref rb), (.int qq)] below meth c s₁ [] 0 0 := Stand.of_body Bd
  have e0 : s₁.heap = h0 := by rw [← hh, Bd.state]; rfl
  have N0 := Fr.nil n0
  change own_Go p e below (own_Post s (Q1_1n Z ra rb qq ka kb rd0 we0 rk0 wj0 h0 n0) ({ frames := 0, cells := 0, slots := 0, locals := 0 } : Room).cells ({ frames := 0, cells := 0, slots := 0, locals := 0 } : Room).slots) (s₁.setTop (entryFrame m #[(.ref ra), (.ref rb), (.int qq)] 6))
  refine own_by (fun t k => castTop (ef_1 m ra rb qq) k) ?_
  show own_Go p e below _ (s₁.setTop (mkF m 0 #[rv ra, rv rb, iv qq, oU, oU, oU] []))
  refine own_by (fun t k => XS.dconst0 X0.here hx rfl (hb hby d1_0) own_dz k) ?_
  show own_Go p e below _ (s₁.setTop (mkF m 1 #[rv ra, rv rb, iv qq, oU, oU, oU] [(.double (0 : UInt64))]))
  refine own_by (B := s₁.setTop (mkF m 27 #[rv ra, rv rb, iv qq, oD (0 : UInt64), oS, iv (0 : Int32)] [(.double rd0), (.double we0), (.double (0 : UInt64))])) (fun t k => ?_) ?_
  · show Steps p.tables e below (s₁.setTop (mkF m 1 #[rv ra, rv rb, iv qq, oU, oU, oU] [(.double (0 : UInt64))])) _
    refine XS.dstoreN X0.here hx rfl (hb hby d1_1) rfl (l' := #[rv ra, rv rb, iv qq, oD (0 : UInt64), oS, oU]) rfl ?_
    show Steps p.tables e below (s₁.setTop (mkF m 2 #[rv ra, rv rb, iv qq, oD (0 : UInt64), oS, oU] [])) _
    refine XS.iconst X0.here hx rfl (hb hby d1_2) ?_
    show Steps p.tables e below (s₁.setTop (mkF m 3 #[rv ra, rv rb, iv qq, oD (0 : UInt64), oS, oU] [(.int (0 : Int32))])) _
    refine XS.istore X0.here hx rfl (hb hby d1_3) rfl (l' := #[rv ra, rv rb, iv qq, oD (0 : UInt64), oS, iv (0 : Int32)]) rfl ?_
    show Steps p.tables e below (s₁.setTop (mkF m 5 #[rv ra, rv rb, iv qq, oD (0 : UInt64), oS, iv (0 : Int32)] [])) _
    refine XS.iload X0.here hx rfl (hb hby d1_5) rfl ?_
    show Steps p.tables e below (s₁.setTop (mkF m 7 #[rv ra, rv rb, iv qq, oD (0 : UInt64), oS, iv (0 : Int32)] [(.int (0 : Int32))])) _
    refine XS.aloadN X0.here hx rfl (hb hby d1_7) rfl rfl ?_
    show Steps p.tables e below (s₁.setTop (mkF m 8 #[rv ra, rv rb, iv qq, oD (0 : UInt64), oS, iv (0 : Int32)] [(.ref ra), (.int (0 : Int32))])) _
    obtain ⟨cl2, Ar2, -, S2, N2, -, -⟩ := id V_ra
    refine X0.arraylength hx (by rw [show s₁.heap = h0 from e0]; exact Ar2.1) (State.isArrayOf_alike hZ.alike Ar2.2.1) (g := (mkF m 8 #[rv ra, rv rb, iv qq, oD (0 : UInt64), oS, iv (0 : Int32)] [(.ref ra), (.int (0 : Int32))])) rfl rfl (hb hby d1_8) _ ?_
    rw [len_of S2 N2]
    show Steps p.tables e below (s₁.setTop (mkF m 9 #[rv ra, rv rb, iv qq, oD (0 : UInt64), oS, iv (0 : Int32)] [(.int (1 : Int32)), (.int (0 : Int32))])) _
    refine XS.icmpNo X0.here hx rfl (hb hby d1_9) rfl (tlt (by decide : (0 : Int32) < (1 : Int32))).2.1 ?_
    show Steps p.tables e below (s₁.setTop (mkF m 12 #[rv ra, rv rb, iv qq, oD (0 : UInt64), oS, iv (0 : Int32)] [])) _
    refine XS.iload X0.here hx rfl (hb hby d1_12) rfl ?_
    show Steps p.tables e below (s₁.setTop (mkF m 14 #[rv ra, rv rb, iv qq, oD (0 : UInt64), oS, iv (0 : Int32)] [(.int (0 : Int32))])) _
    refine XS.iloadN X0.here hx rfl (hb hby d1_14) rfl ?_
    show Steps p.tables e below (s₁.setTop (mkF m 15 #[rv ra, rv rb, iv qq, oD (0 : UInt64), oS, iv (0 : Int32)] [(.int qq), (.int (0 : Int32))])) _
    refine XS.icmpNo X0.here hx rfl (hb hby d1_15) rfl (feq hq0).1 ?_
    show Steps p.tables e below (s₁.setTop (mkF m 18 #[rv ra, rv rb, iv qq, oD (0 : UInt64), oS, iv (0 : Int32)] [])) _
    refine XS.dloadN X0.here hx rfl (hb hby d1_18) rfl ?_
    show Steps p.tables e below (s₁.setTop (mkF m 19 #[rv ra, rv rb, iv qq, oD (0 : UInt64), oS, iv (0 : Int32)] [(.double (0 : UInt64))])) _
    refine XS.aloadN X0.here hx rfl (hb hby d1_19) rfl rfl ?_
    show Steps p.tables e below (s₁.setTop (mkF m 20 #[rv ra, rv rb, iv qq, oD (0 : UInt64), oS, iv (0 : Int32)] [(.ref rb), (.double (0 : UInt64))])) _
    refine XS.iload X0.here hx rfl (hb hby d1_20) rfl ?_
    show Steps p.tables e below (s₁.setTop (mkF m 22 #[rv ra, rv rb, iv qq, oD (0 : UInt64), oS, iv (0 : Int32)] [(.int (0 : Int32)), (.ref rb), (.double (0 : UInt64))])) _
    obtain ⟨cl3, Ar3, q3, S3, N3, H3, G3⟩ := id V_rb
    have hin3 : ¬ ((0 : Int32) < 0 ∨ cl3.slots.size ≤ ((0 : Int32)).toNatClampNeg) := inb_of S3 ⟨by decide, by decide⟩
    have hat3 : cl3.slots[((0 : Int32)).toNatClampNeg]? = some (.double we0) := H3.at hin3 rfl
    refine X0.daload hx (j := (0 : Int32)) (v := (.double we0)) (by rw [show s₁.heap = h0 from e0]; exact Ar3.1) (State.isArrayOf_alike hZ.alike Ar3.2.1) Ar3.2.2 hin3 hat3 (g := (mkF m 22 #[rv ra, rv rb, iv qq, oD (0 : UInt64), oS, iv (0 : Int32)] [(.int (0 : Int32)), (.ref rb), (.double (0 : UInt64))])) rfl rfl (hb hby d1_22) _ ?_
    show Steps p.tables e below (s₁.setTop (mkF m 23 #[rv ra, rv rb, iv qq, oD (0 : UInt64), oS, iv (0 : Int32)] [(.double we0), (.double (0 : UInt64))])) _
    refine XS.aloadN X0.here hx rfl (hb hby d1_23) rfl rfl ?_
    show Steps p.tables e below (s₁.setTop (mkF m 24 #[rv ra, rv rb, iv qq, oD (0 : UInt64), oS, iv (0 : Int32)] [(.ref ra), (.double we0), (.double (0 : UInt64))])) _
    refine XS.iload X0.here hx rfl (hb hby d1_24) rfl ?_
    show Steps p.tables e below (s₁.setTop (mkF m 26 #[rv ra, rv rb, iv qq, oD (0 : UInt64), oS, iv (0 : Int32)] [(.int (0 : Int32)), (.ref ra), (.double we0), (.double (0 : UInt64))])) _
    obtain ⟨cl4, Ar4, q4, S4, N4, H4, G4⟩ := id V_ra
    have hin4 : ¬ ((0 : Int32) < 0 ∨ cl4.slots.size ≤ ((0 : Int32)).toNatClampNeg) := inb_of S4 ⟨by decide, by decide⟩
    have hat4 : cl4.slots[((0 : Int32)).toNatClampNeg]? = some (.double rd0) := H4.at hin4 rfl
    refine X0.daload hx (j := (0 : Int32)) (v := (.double rd0)) (by rw [show s₁.heap = h0 from e0]; exact Ar4.1) (State.isArrayOf_alike hZ.alike Ar4.2.1) Ar4.2.2 hin4 hat4 (g := (mkF m 26 #[rv ra, rv rb, iv qq, oD (0 : UInt64), oS, iv (0 : Int32)] [(.int (0 : Int32)), (.ref ra), (.double we0), (.double (0 : UInt64))])) rfl rfl (hb hby d1_26) _ ?_
    show Steps p.tables e below (s₁.setTop (mkF m 27 #[rv ra, rv rb, iv qq, oD (0 : UInt64), oS, iv (0 : Int32)] [(.double rd0), (.double we0), (.double (0 : UInt64))])) _
    exact k
  have Y5 : own_Dy (wj0 * rk0) 33554432 (FP.dmul we0 rd0) := (own_dmul Ye0 Yd0 (by decide))
  refine own_by (fun t k => XS.dmulS X0.here hx rfl (hb hby d1_27) rfl (own_nnY Y5) rfl k) ?_
  generalize (FP.dmul we0 rd0) = d5 at Y5 ⊢
  show own_Go p e below _ (s₁.setTop (mkF m 28 #[rv ra, rv rb, iv qq, oD (0 : UInt64), oS, iv (0 : Int32)] [(.double d5), (.double (0 : UInt64))]))
  have Y6 : own_Dy (0 + (wj0 * rk0)) 33554432 (FP.dadd (0 : UInt64) d5) := (own_dadd own_d0 Y5 (by decide))
  refine own_by (fun t k => XS.daddS X0.here hx rfl (hb hby d1_28) rfl (own_nnY Y6) rfl k) ?_
  generalize (FP.dadd (0 : UInt64) d5) = d6 at Y6 ⊢
  show own_Go p e below _ (s₁.setTop (mkF m 29 #[rv ra, rv rb, iv qq, oD (0 : UInt64), oS, iv (0 : Int32)] [(.double d6)]))
  refine own_by (B := s₁.setTop (mkF m 37 #[rv ra, rv rb, iv qq, oD d6, oS, iv (1 : Int32)] [(.double d6)])) (fun t k => ?_) ?_
  · show Steps p.tables e below (s₁.setTop (mkF m 29 #[rv ra, rv rb, iv qq, oD (0 : UInt64), oS, iv (0 : Int32)] [(.double d6)])) _
    refine XS.dstoreN X0.here hx rfl (hb hby d1_29) rfl (l' := #[rv ra, rv rb, iv qq, oD d6, oS, iv (0 : Int32)]) rfl ?_
    show Steps p.tables e below (s₁.setTop (mkF m 30 #[rv ra, rv rb, iv qq, oD d6, oS, iv (0 : Int32)] [])) _
    refine XS.iinc X0.here hx rfl (hb hby d1_30) rfl (l' := #[rv ra, rv rb, iv qq, oD d6, oS, iv (1 : Int32)]) rfl ?_
    show Steps p.tables e below (s₁.setTop (mkF m 33 #[rv ra, rv rb, iv qq, oD d6, oS, iv (1 : Int32)] [])) _
    refine XS.goto X0.here hx rfl (pc0 := 33) (pc' := 5) rfl (hb hby d1_33) (by decide) (by decide) ?_
    show Steps p.tables e below (s₁.setTop (mkF m 5 #[rv ra, rv rb, iv qq, oD d6, oS, iv (1 : Int32)] [])) _
    refine XS.iload X0.here hx rfl (hb hby d1_5) rfl ?_
    show Steps p.tables e below (s₁.setTop (mkF m 7 #[rv ra, rv rb, iv qq, oD d6, oS, iv (1 : Int32)] [(.int (1 : Int32))])) _
    refine XS.aloadN X0.here hx rfl (hb hby d1_7) rfl rfl ?_
    show Steps p.tables e below (s₁.setTop (mkF m 8 #[rv ra, rv rb, iv qq, oD d6, oS, iv (1 : Int32)] [(.ref ra), (.int (1 : Int32))])) _
    obtain ⟨cl7, Ar7, -, S7, N7, -, -⟩ := id V_ra
    refine X0.arraylength hx (by rw [show s₁.heap = h0 from e0]; exact Ar7.1) (State.isArrayOf_alike hZ.alike Ar7.2.1) (g := (mkF m 8 #[rv ra, rv rb, iv qq, oD d6, oS, iv (1 : Int32)] [(.ref ra), (.int (1 : Int32))])) rfl rfl (hb hby d1_8) _ ?_
    rw [len_of S7 N7]
    show Steps p.tables e below (s₁.setTop (mkF m 9 #[rv ra, rv rb, iv qq, oD d6, oS, iv (1 : Int32)] [(.int (1 : Int32)), (.int (1 : Int32))])) _
    refine XS.icmpYes X0.here hx rfl (pc0 := 9) (pc' := 36) rfl (hb hby d1_9) rfl (flt (by decide : ¬ ((1 : Int32) < (1 : Int32)))).2.1 (by decide) (by decide) ?_
    show Steps p.tables e below (s₁.setTop (mkF m 36 #[rv ra, rv rb, iv qq, oD d6, oS, iv (1 : Int32)] [])) _
    refine XS.dloadN X0.here hx rfl (hb hby d1_36) rfl ?_
    show Steps p.tables e below (s₁.setTop (mkF m 37 #[rv ra, rv rb, iv qq, oD d6, oS, iv (1 : Int32)] [(.double d6)])) _
    exact k
  exact own_retD X0 Bd.notSynchronized hx Bd.returns (hb hby d1_37) (by
      try rw [show s₁.heap = h0 from e0]
      exact ⟨d6, rfl, N0, rfl, Y6⟩) (by decide) (by decide)

def Q1_10 (Z : State) (ra : Addr) (rb : Addr) (qq : Int32) (ka : ClassId) (kb : ClassId) (rd0 : UInt64) (we0 : UInt64) (rk0 : Int) (wj0 : Int) (h0 : Heap) (n0 : Nat) (v : Option Value) (h : Heap) (L : List Loc) : Prop := ∃ x : UInt64, v = some (.double x) ∧ Fr n0 L ∧ h = h0 ∧ own_Dy 0 0 x
set_option maxRecDepth 65536 in
set_option maxHeartbeats 40000000 in
theorem rm1_10 (l : Launch) (Z : State) (a0 : Array Value) (hw : ∀ d ∈ tables_1, d.before a0 Z = true) (ws : List Jvm.Cond) (ra : Addr) (rb : Addr) (qq : Int32) (ka : ClassId) (kb : ClassId) (rd0 : UInt64) (we0 : UInt64) (rk0 : Int) (wj0 : Int) (h0 : Heap) (n0 : Nat) (Z0 : n0 ≤ h0.size) (V_ra : Arv Z h0 ra ka .double (1 : Int32) [(.double rd0)] (.double (0 : UInt64))) (V_rb : Arv Z h0 rb kb .double (1 : Int32) [(.double we0)] (.double (0 : UInt64))) (Yd0 : own_Dy rk0 1024 rd0) (Ye0 : own_Di wj0 32768 we0) (hq0 : (0 : Int32) = qq) :
    MetFree l (⟨"com/example/rivulet/rivulet/flow/Flow", "expected", "([D[DI)D"⟩ : MethodName) (head1 (Jvm.Cond.code (⟨"com/example/rivulet/rivulet/flow/Flow", "expected", "([D[DI)D"⟩ : MethodName) prog_17_method_4_code 6 (some .double) :: ws) ({ frames := 0, cells := 0, slots := 0, locals := 0 } : Room)) (fun a U => a = #[(.ref ra), (.ref rb), (.int qq)] ∧ Z.Warmed39 U.vm ∧ U.heap = h0) (fun _ _ _ _ _ => True) (fun _ U o U' => ∃ v L, o = .returned v ∧ Q1_10 Z ra rb qq ka kb rd0 we0 rk0 wj0 h0 n0 v U'.heap L ∧ FrameEnd U o U' L ({ frames := 0, cells := 0, slots := 0, locals := 0 } : Room).cells ({ frames := 0, cells := 0, slots := 0, locals := 0 } : Room).slots) := by
  refine MetFree.of_bodySF (plainFor_of_name pn_1) hisR ?_
  intro p e s m args below meth c s₁ Bd hml0 hP hK
  obtain ⟨rfl, hZ, hh⟩ := hP
  have hx := Bd.exec
  have hby := Bd.bytes
  have hml : c.maxLocals = 6 := hml0
  have hown : s.vm.findClass "com/example/rivulet/rivulet/flow/Flow" = some m.cls := findClass_of_methodNamed Bd.named
  have hnm := (name_of_methodNamed Bd.named Bd.method).1
  have X0 : Stand p l e ({ frames := 0, cells := 0, slots := 0, locals := 0 } : Room) s m #[(.ref ra), (.ref rb), (.int qq)] below meth c s₁ [] 0 0 := Stand.of_body Bd
  have e0 : s₁.heap = h0 := by rw [← hh, Bd.state]; rfl
  have N0 := Fr.nil n0
  change own_Go p e below (own_Post s (Q1_10 Z ra rb qq ka kb rd0 we0 rk0 wj0 h0 n0) ({ frames := 0, cells := 0, slots := 0, locals := 0 } : Room).cells ({ frames := 0, cells := 0, slots := 0, locals := 0 } : Room).slots) (s₁.setTop (entryFrame m #[(.ref ra), (.ref rb), (.int qq)] 6))
  refine own_by (fun t k => castTop (ef_1 m ra rb qq) k) ?_
  show own_Go p e below _ (s₁.setTop (mkF m 0 #[rv ra, rv rb, iv qq, oU, oU, oU] []))
  refine own_by (fun t k => XS.dconst0 X0.here hx rfl (hb hby d1_0) own_dz k) ?_
  show own_Go p e below _ (s₁.setTop (mkF m 1 #[rv ra, rv rb, iv qq, oU, oU, oU] [(.double (0 : UInt64))]))
  refine own_by (B := s₁.setTop (mkF m 37 #[rv ra, rv rb, iv qq, oD (0 : UInt64), oS, iv (1 : Int32)] [(.double (0 : UInt64))])) (fun t k => ?_) ?_
  · show Steps p.tables e below (s₁.setTop (mkF m 1 #[rv ra, rv rb, iv qq, oU, oU, oU] [(.double (0 : UInt64))])) _
    refine XS.dstoreN X0.here hx rfl (hb hby d1_1) rfl (l' := #[rv ra, rv rb, iv qq, oD (0 : UInt64), oS, oU]) rfl ?_
    show Steps p.tables e below (s₁.setTop (mkF m 2 #[rv ra, rv rb, iv qq, oD (0 : UInt64), oS, oU] [])) _
    refine XS.iconst X0.here hx rfl (hb hby d1_2) ?_
    show Steps p.tables e below (s₁.setTop (mkF m 3 #[rv ra, rv rb, iv qq, oD (0 : UInt64), oS, oU] [(.int (0 : Int32))])) _
    refine XS.istore X0.here hx rfl (hb hby d1_3) rfl (l' := #[rv ra, rv rb, iv qq, oD (0 : UInt64), oS, iv (0 : Int32)]) rfl ?_
    show Steps p.tables e below (s₁.setTop (mkF m 5 #[rv ra, rv rb, iv qq, oD (0 : UInt64), oS, iv (0 : Int32)] [])) _
    refine XS.iload X0.here hx rfl (hb hby d1_5) rfl ?_
    show Steps p.tables e below (s₁.setTop (mkF m 7 #[rv ra, rv rb, iv qq, oD (0 : UInt64), oS, iv (0 : Int32)] [(.int (0 : Int32))])) _
    refine XS.aloadN X0.here hx rfl (hb hby d1_7) rfl rfl ?_
    show Steps p.tables e below (s₁.setTop (mkF m 8 #[rv ra, rv rb, iv qq, oD (0 : UInt64), oS, iv (0 : Int32)] [(.ref ra), (.int (0 : Int32))])) _
    obtain ⟨cl2, Ar2, -, S2, N2, -, -⟩ := id V_ra
    refine X0.arraylength hx (by rw [show s₁.heap = h0 from e0]; exact Ar2.1) (State.isArrayOf_alike hZ.alike Ar2.2.1) (g := (mkF m 8 #[rv ra, rv rb, iv qq, oD (0 : UInt64), oS, iv (0 : Int32)] [(.ref ra), (.int (0 : Int32))])) rfl rfl (hb hby d1_8) _ ?_
    rw [len_of S2 N2]
    show Steps p.tables e below (s₁.setTop (mkF m 9 #[rv ra, rv rb, iv qq, oD (0 : UInt64), oS, iv (0 : Int32)] [(.int (1 : Int32)), (.int (0 : Int32))])) _
    refine XS.icmpNo X0.here hx rfl (hb hby d1_9) rfl (tlt (by decide : (0 : Int32) < (1 : Int32))).2.1 ?_
    show Steps p.tables e below (s₁.setTop (mkF m 12 #[rv ra, rv rb, iv qq, oD (0 : UInt64), oS, iv (0 : Int32)] [])) _
    refine XS.iload X0.here hx rfl (hb hby d1_12) rfl ?_
    show Steps p.tables e below (s₁.setTop (mkF m 14 #[rv ra, rv rb, iv qq, oD (0 : UInt64), oS, iv (0 : Int32)] [(.int (0 : Int32))])) _
    refine XS.iloadN X0.here hx rfl (hb hby d1_14) rfl ?_
    show Steps p.tables e below (s₁.setTop (mkF m 15 #[rv ra, rv rb, iv qq, oD (0 : UInt64), oS, iv (0 : Int32)] [(.int qq), (.int (0 : Int32))])) _
    refine XS.icmpYes X0.here hx rfl (pc0 := 15) (pc' := 30) rfl (hb hby d1_15) rfl (teq hq0).1 (by decide) (by decide) ?_
    show Steps p.tables e below (s₁.setTop (mkF m 30 #[rv ra, rv rb, iv qq, oD (0 : UInt64), oS, iv (0 : Int32)] [])) _
    refine XS.iinc X0.here hx rfl (hb hby d1_30) rfl (l' := #[rv ra, rv rb, iv qq, oD (0 : UInt64), oS, iv (1 : Int32)]) rfl ?_
    show Steps p.tables e below (s₁.setTop (mkF m 33 #[rv ra, rv rb, iv qq, oD (0 : UInt64), oS, iv (1 : Int32)] [])) _
    refine XS.goto X0.here hx rfl (pc0 := 33) (pc' := 5) rfl (hb hby d1_33) (by decide) (by decide) ?_
    show Steps p.tables e below (s₁.setTop (mkF m 5 #[rv ra, rv rb, iv qq, oD (0 : UInt64), oS, iv (1 : Int32)] [])) _
    refine XS.iload X0.here hx rfl (hb hby d1_5) rfl ?_
    show Steps p.tables e below (s₁.setTop (mkF m 7 #[rv ra, rv rb, iv qq, oD (0 : UInt64), oS, iv (1 : Int32)] [(.int (1 : Int32))])) _
    refine XS.aloadN X0.here hx rfl (hb hby d1_7) rfl rfl ?_
    show Steps p.tables e below (s₁.setTop (mkF m 8 #[rv ra, rv rb, iv qq, oD (0 : UInt64), oS, iv (1 : Int32)] [(.ref ra), (.int (1 : Int32))])) _
    obtain ⟨cl3, Ar3, -, S3, N3, -, -⟩ := id V_ra
    refine X0.arraylength hx (by rw [show s₁.heap = h0 from e0]; exact Ar3.1) (State.isArrayOf_alike hZ.alike Ar3.2.1) (g := (mkF m 8 #[rv ra, rv rb, iv qq, oD (0 : UInt64), oS, iv (1 : Int32)] [(.ref ra), (.int (1 : Int32))])) rfl rfl (hb hby d1_8) _ ?_
    rw [len_of S3 N3]
    show Steps p.tables e below (s₁.setTop (mkF m 9 #[rv ra, rv rb, iv qq, oD (0 : UInt64), oS, iv (1 : Int32)] [(.int (1 : Int32)), (.int (1 : Int32))])) _
    refine XS.icmpYes X0.here hx rfl (pc0 := 9) (pc' := 36) rfl (hb hby d1_9) rfl (flt (by decide : ¬ ((1 : Int32) < (1 : Int32)))).2.1 (by decide) (by decide) ?_
    show Steps p.tables e below (s₁.setTop (mkF m 36 #[rv ra, rv rb, iv qq, oD (0 : UInt64), oS, iv (1 : Int32)] [])) _
    refine XS.dloadN X0.here hx rfl (hb hby d1_36) rfl ?_
    show Steps p.tables e below (s₁.setTop (mkF m 37 #[rv ra, rv rb, iv qq, oD (0 : UInt64), oS, iv (1 : Int32)] [(.double (0 : UInt64))])) _
    exact k
  exact own_retD X0 Bd.notSynchronized hx Bd.returns (hb hby d1_37) (by
      try rw [show s₁.heap = h0 from e0]
      exact ⟨(0 : UInt64), rfl, N0, rfl, own_d0⟩) (by decide) (by decide)

def Q1_2n (Z : State) (ra : Addr) (rb : Addr) (qq : Int32) (ka : ClassId) (kb : ClassId) (rd0 : UInt64) (rd1 : UInt64) (we0 : UInt64) (we1 : UInt64) (rk0 : Int) (rk1 : Int) (wj0 : Int) (wj1 : Int) (h0 : Heap) (n0 : Nat) (v : Option Value) (h : Heap) (L : List Loc) : Prop := ∃ x : UInt64, v = some (.double x) ∧ Fr n0 L ∧ h = h0 ∧ own_Dy ((0 + (wj0 * rk0)) + (wj1 * rk1)) 67108864 x
set_option maxRecDepth 65536 in
set_option maxHeartbeats 40000000 in
theorem rm1_2n (l : Launch) (Z : State) (a0 : Array Value) (hw : ∀ d ∈ tables_1, d.before a0 Z = true) (ws : List Jvm.Cond) (ra : Addr) (rb : Addr) (qq : Int32) (ka : ClassId) (kb : ClassId) (rd0 : UInt64) (rd1 : UInt64) (we0 : UInt64) (we1 : UInt64) (rk0 : Int) (rk1 : Int) (wj0 : Int) (wj1 : Int) (h0 : Heap) (n0 : Nat) (Z0 : n0 ≤ h0.size) (V_ra : Arv Z h0 ra ka .double (2 : Int32) [(.double rd0), (.double rd1)] (.double (0 : UInt64))) (V_rb : Arv Z h0 rb kb .double (2 : Int32) [(.double we0), (.double we1)] (.double (0 : UInt64))) (Yd0 : own_Dy rk0 1024 rd0) (Ye0 : own_Di wj0 32768 we0) (Yd1 : own_Dy rk1 1024 rd1) (Ye1 : own_Di wj1 32768 we1) (hq0 : ¬ ((0 : Int32) = qq)) (hq1 : ¬ ((1 : Int32) = qq)) :
    MetFree l (⟨"com/example/rivulet/rivulet/flow/Flow", "expected", "([D[DI)D"⟩ : MethodName) (head1 (Jvm.Cond.code (⟨"com/example/rivulet/rivulet/flow/Flow", "expected", "([D[DI)D"⟩ : MethodName) prog_17_method_4_code 6 (some .double) :: ws) ({ frames := 0, cells := 0, slots := 0, locals := 0 } : Room)) (fun a U => a = #[(.ref ra), (.ref rb), (.int qq)] ∧ Z.Warmed39 U.vm ∧ U.heap = h0) (fun _ _ _ _ _ => True) (fun _ U o U' => ∃ v L, o = .returned v ∧ Q1_2n Z ra rb qq ka kb rd0 rd1 we0 we1 rk0 rk1 wj0 wj1 h0 n0 v U'.heap L ∧ FrameEnd U o U' L ({ frames := 0, cells := 0, slots := 0, locals := 0 } : Room).cells ({ frames := 0, cells := 0, slots := 0, locals := 0 } : Room).slots) := by
  refine MetFree.of_bodySF (plainFor_of_name pn_1) hisR ?_
  intro p e s m args below meth c s₁ Bd hml0 hP hK
  obtain ⟨rfl, hZ, hh⟩ := hP
  have hx := Bd.exec
  have hby := Bd.bytes
  have hml : c.maxLocals = 6 := hml0
  have hown : s.vm.findClass "com/example/rivulet/rivulet/flow/Flow" = some m.cls := findClass_of_methodNamed Bd.named
  have hnm := (name_of_methodNamed Bd.named Bd.method).1
  have X0 : Stand p l e ({ frames := 0, cells := 0, slots := 0, locals := 0 } : Room) s m #[(.ref ra), (.ref rb), (.int qq)] below meth c s₁ [] 0 0 := Stand.of_body Bd
  have e0 : s₁.heap = h0 := by rw [← hh, Bd.state]; rfl
  have N0 := Fr.nil n0
  change own_Go p e below (own_Post s (Q1_2n Z ra rb qq ka kb rd0 rd1 we0 we1 rk0 rk1 wj0 wj1 h0 n0) ({ frames := 0, cells := 0, slots := 0, locals := 0 } : Room).cells ({ frames := 0, cells := 0, slots := 0, locals := 0 } : Room).slots) (s₁.setTop (entryFrame m #[(.ref ra), (.ref rb), (.int qq)] 6))
  refine own_by (fun t k => castTop (ef_1 m ra rb qq) k) ?_
  show own_Go p e below _ (s₁.setTop (mkF m 0 #[rv ra, rv rb, iv qq, oU, oU, oU] []))
  refine own_by (fun t k => XS.dconst0 X0.here hx rfl (hb hby d1_0) own_dz k) ?_
  show own_Go p e below _ (s₁.setTop (mkF m 1 #[rv ra, rv rb, iv qq, oU, oU, oU] [(.double (0 : UInt64))]))
  refine own_by (B := s₁.setTop (mkF m 27 #[rv ra, rv rb, iv qq, oD (0 : UInt64), oS, iv (0 : Int32)] [(.double rd0), (.double we0), (.double (0 : UInt64))])) (fun t k => ?_) ?_
  · show Steps p.tables e below (s₁.setTop (mkF m 1 #[rv ra, rv rb, iv qq, oU, oU, oU] [(.double (0 : UInt64))])) _
    refine XS.dstoreN X0.here hx rfl (hb hby d1_1) rfl (l' := #[rv ra, rv rb, iv qq, oD (0 : UInt64), oS, oU]) rfl ?_
    show Steps p.tables e below (s₁.setTop (mkF m 2 #[rv ra, rv rb, iv qq, oD (0 : UInt64), oS, oU] [])) _
    refine XS.iconst X0.here hx rfl (hb hby d1_2) ?_
    show Steps p.tables e below (s₁.setTop (mkF m 3 #[rv ra, rv rb, iv qq, oD (0 : UInt64), oS, oU] [(.int (0 : Int32))])) _
    refine XS.istore X0.here hx rfl (hb hby d1_3) rfl (l' := #[rv ra, rv rb, iv qq, oD (0 : UInt64), oS, iv (0 : Int32)]) rfl ?_
    show Steps p.tables e below (s₁.setTop (mkF m 5 #[rv ra, rv rb, iv qq, oD (0 : UInt64), oS, iv (0 : Int32)] [])) _
    refine XS.iload X0.here hx rfl (hb hby d1_5) rfl ?_
    show Steps p.tables e below (s₁.setTop (mkF m 7 #[rv ra, rv rb, iv qq, oD (0 : UInt64), oS, iv (0 : Int32)] [(.int (0 : Int32))])) _
    refine XS.aloadN X0.here hx rfl (hb hby d1_7) rfl rfl ?_
    show Steps p.tables e below (s₁.setTop (mkF m 8 #[rv ra, rv rb, iv qq, oD (0 : UInt64), oS, iv (0 : Int32)] [(.ref ra), (.int (0 : Int32))])) _
    obtain ⟨cl2, Ar2, -, S2, N2, -, -⟩ := id V_ra
    refine X0.arraylength hx (by rw [show s₁.heap = h0 from e0]; exact Ar2.1) (State.isArrayOf_alike hZ.alike Ar2.2.1) (g := (mkF m 8 #[rv ra, rv rb, iv qq, oD (0 : UInt64), oS, iv (0 : Int32)] [(.ref ra), (.int (0 : Int32))])) rfl rfl (hb hby d1_8) _ ?_
    rw [len_of S2 N2]
    show Steps p.tables e below (s₁.setTop (mkF m 9 #[rv ra, rv rb, iv qq, oD (0 : UInt64), oS, iv (0 : Int32)] [(.int (2 : Int32)), (.int (0 : Int32))])) _
    refine XS.icmpNo X0.here hx rfl (hb hby d1_9) rfl (tlt (by decide : (0 : Int32) < (2 : Int32))).2.1 ?_
    show Steps p.tables e below (s₁.setTop (mkF m 12 #[rv ra, rv rb, iv qq, oD (0 : UInt64), oS, iv (0 : Int32)] [])) _
    refine XS.iload X0.here hx rfl (hb hby d1_12) rfl ?_
    show Steps p.tables e below (s₁.setTop (mkF m 14 #[rv ra, rv rb, iv qq, oD (0 : UInt64), oS, iv (0 : Int32)] [(.int (0 : Int32))])) _
    refine XS.iloadN X0.here hx rfl (hb hby d1_14) rfl ?_
    show Steps p.tables e below (s₁.setTop (mkF m 15 #[rv ra, rv rb, iv qq, oD (0 : UInt64), oS, iv (0 : Int32)] [(.int qq), (.int (0 : Int32))])) _
    refine XS.icmpNo X0.here hx rfl (hb hby d1_15) rfl (feq hq0).1 ?_
    show Steps p.tables e below (s₁.setTop (mkF m 18 #[rv ra, rv rb, iv qq, oD (0 : UInt64), oS, iv (0 : Int32)] [])) _
    refine XS.dloadN X0.here hx rfl (hb hby d1_18) rfl ?_
    show Steps p.tables e below (s₁.setTop (mkF m 19 #[rv ra, rv rb, iv qq, oD (0 : UInt64), oS, iv (0 : Int32)] [(.double (0 : UInt64))])) _
    refine XS.aloadN X0.here hx rfl (hb hby d1_19) rfl rfl ?_
    show Steps p.tables e below (s₁.setTop (mkF m 20 #[rv ra, rv rb, iv qq, oD (0 : UInt64), oS, iv (0 : Int32)] [(.ref rb), (.double (0 : UInt64))])) _
    refine XS.iload X0.here hx rfl (hb hby d1_20) rfl ?_
    show Steps p.tables e below (s₁.setTop (mkF m 22 #[rv ra, rv rb, iv qq, oD (0 : UInt64), oS, iv (0 : Int32)] [(.int (0 : Int32)), (.ref rb), (.double (0 : UInt64))])) _
    obtain ⟨cl3, Ar3, q3, S3, N3, H3, G3⟩ := id V_rb
    have hin3 : ¬ ((0 : Int32) < 0 ∨ cl3.slots.size ≤ ((0 : Int32)).toNatClampNeg) := inb_of S3 ⟨by decide, by decide⟩
    have hat3 : cl3.slots[((0 : Int32)).toNatClampNeg]? = some (.double we0) := H3.at hin3 rfl
    refine X0.daload hx (j := (0 : Int32)) (v := (.double we0)) (by rw [show s₁.heap = h0 from e0]; exact Ar3.1) (State.isArrayOf_alike hZ.alike Ar3.2.1) Ar3.2.2 hin3 hat3 (g := (mkF m 22 #[rv ra, rv rb, iv qq, oD (0 : UInt64), oS, iv (0 : Int32)] [(.int (0 : Int32)), (.ref rb), (.double (0 : UInt64))])) rfl rfl (hb hby d1_22) _ ?_
    show Steps p.tables e below (s₁.setTop (mkF m 23 #[rv ra, rv rb, iv qq, oD (0 : UInt64), oS, iv (0 : Int32)] [(.double we0), (.double (0 : UInt64))])) _
    refine XS.aloadN X0.here hx rfl (hb hby d1_23) rfl rfl ?_
    show Steps p.tables e below (s₁.setTop (mkF m 24 #[rv ra, rv rb, iv qq, oD (0 : UInt64), oS, iv (0 : Int32)] [(.ref ra), (.double we0), (.double (0 : UInt64))])) _
    refine XS.iload X0.here hx rfl (hb hby d1_24) rfl ?_
    show Steps p.tables e below (s₁.setTop (mkF m 26 #[rv ra, rv rb, iv qq, oD (0 : UInt64), oS, iv (0 : Int32)] [(.int (0 : Int32)), (.ref ra), (.double we0), (.double (0 : UInt64))])) _
    obtain ⟨cl4, Ar4, q4, S4, N4, H4, G4⟩ := id V_ra
    have hin4 : ¬ ((0 : Int32) < 0 ∨ cl4.slots.size ≤ ((0 : Int32)).toNatClampNeg) := inb_of S4 ⟨by decide, by decide⟩
    have hat4 : cl4.slots[((0 : Int32)).toNatClampNeg]? = some (.double rd0) := H4.at hin4 rfl
    refine X0.daload hx (j := (0 : Int32)) (v := (.double rd0)) (by rw [show s₁.heap = h0 from e0]; exact Ar4.1) (State.isArrayOf_alike hZ.alike Ar4.2.1) Ar4.2.2 hin4 hat4 (g := (mkF m 26 #[rv ra, rv rb, iv qq, oD (0 : UInt64), oS, iv (0 : Int32)] [(.int (0 : Int32)), (.ref ra), (.double we0), (.double (0 : UInt64))])) rfl rfl (hb hby d1_26) _ ?_
    show Steps p.tables e below (s₁.setTop (mkF m 27 #[rv ra, rv rb, iv qq, oD (0 : UInt64), oS, iv (0 : Int32)] [(.double rd0), (.double we0), (.double (0 : UInt64))])) _
    exact k
  have Y5 : own_Dy (wj0 * rk0) 33554432 (FP.dmul we0 rd0) := (own_dmul Ye0 Yd0 (by decide))
  refine own_by (fun t k => XS.dmulS X0.here hx rfl (hb hby d1_27) rfl (own_nnY Y5) rfl k) ?_
  generalize (FP.dmul we0 rd0) = d5 at Y5 ⊢
  show own_Go p e below _ (s₁.setTop (mkF m 28 #[rv ra, rv rb, iv qq, oD (0 : UInt64), oS, iv (0 : Int32)] [(.double d5), (.double (0 : UInt64))]))
  have Y6 : own_Dy (0 + (wj0 * rk0)) 33554432 (FP.dadd (0 : UInt64) d5) := (own_dadd own_d0 Y5 (by decide))
  refine own_by (fun t k => XS.daddS X0.here hx rfl (hb hby d1_28) rfl (own_nnY Y6) rfl k) ?_
  generalize (FP.dadd (0 : UInt64) d5) = d6 at Y6 ⊢
  show own_Go p e below _ (s₁.setTop (mkF m 29 #[rv ra, rv rb, iv qq, oD (0 : UInt64), oS, iv (0 : Int32)] [(.double d6)]))
  refine own_by (B := s₁.setTop (mkF m 27 #[rv ra, rv rb, iv qq, oD d6, oS, iv (1 : Int32)] [(.double rd1), (.double we1), (.double d6)])) (fun t k => ?_) ?_
  · show Steps p.tables e below (s₁.setTop (mkF m 29 #[rv ra, rv rb, iv qq, oD (0 : UInt64), oS, iv (0 : Int32)] [(.double d6)])) _
    refine XS.dstoreN X0.here hx rfl (hb hby d1_29) rfl (l' := #[rv ra, rv rb, iv qq, oD d6, oS, iv (0 : Int32)]) rfl ?_
    show Steps p.tables e below (s₁.setTop (mkF m 30 #[rv ra, rv rb, iv qq, oD d6, oS, iv (0 : Int32)] [])) _
    refine XS.iinc X0.here hx rfl (hb hby d1_30) rfl (l' := #[rv ra, rv rb, iv qq, oD d6, oS, iv (1 : Int32)]) rfl ?_
    show Steps p.tables e below (s₁.setTop (mkF m 33 #[rv ra, rv rb, iv qq, oD d6, oS, iv (1 : Int32)] [])) _
    refine XS.goto X0.here hx rfl (pc0 := 33) (pc' := 5) rfl (hb hby d1_33) (by decide) (by decide) ?_
    show Steps p.tables e below (s₁.setTop (mkF m 5 #[rv ra, rv rb, iv qq, oD d6, oS, iv (1 : Int32)] [])) _
    refine XS.iload X0.here hx rfl (hb hby d1_5) rfl ?_
    show Steps p.tables e below (s₁.setTop (mkF m 7 #[rv ra, rv rb, iv qq, oD d6, oS, iv (1 : Int32)] [(.int (1 : Int32))])) _
    refine XS.aloadN X0.here hx rfl (hb hby d1_7) rfl rfl ?_
    show Steps p.tables e below (s₁.setTop (mkF m 8 #[rv ra, rv rb, iv qq, oD d6, oS, iv (1 : Int32)] [(.ref ra), (.int (1 : Int32))])) _
    obtain ⟨cl7, Ar7, -, S7, N7, -, -⟩ := id V_ra
    refine X0.arraylength hx (by rw [show s₁.heap = h0 from e0]; exact Ar7.1) (State.isArrayOf_alike hZ.alike Ar7.2.1) (g := (mkF m 8 #[rv ra, rv rb, iv qq, oD d6, oS, iv (1 : Int32)] [(.ref ra), (.int (1 : Int32))])) rfl rfl (hb hby d1_8) _ ?_
    rw [len_of S7 N7]
    show Steps p.tables e below (s₁.setTop (mkF m 9 #[rv ra, rv rb, iv qq, oD d6, oS, iv (1 : Int32)] [(.int (2 : Int32)), (.int (1 : Int32))])) _
    refine XS.icmpNo X0.here hx rfl (hb hby d1_9) rfl (tlt (by decide : (1 : Int32) < (2 : Int32))).2.1 ?_
    show Steps p.tables e below (s₁.setTop (mkF m 12 #[rv ra, rv rb, iv qq, oD d6, oS, iv (1 : Int32)] [])) _
    refine XS.iload X0.here hx rfl (hb hby d1_12) rfl ?_
    show Steps p.tables e below (s₁.setTop (mkF m 14 #[rv ra, rv rb, iv qq, oD d6, oS, iv (1 : Int32)] [(.int (1 : Int32))])) _
    refine XS.iloadN X0.here hx rfl (hb hby d1_14) rfl ?_
    show Steps p.tables e below (s₁.setTop (mkF m 15 #[rv ra, rv rb, iv qq, oD d6, oS, iv (1 : Int32)] [(.int qq), (.int (1 : Int32))])) _
    refine XS.icmpNo X0.here hx rfl (hb hby d1_15) rfl (feq hq1).1 ?_
    show Steps p.tables e below (s₁.setTop (mkF m 18 #[rv ra, rv rb, iv qq, oD d6, oS, iv (1 : Int32)] [])) _
    refine XS.dloadN X0.here hx rfl (hb hby d1_18) rfl ?_
    show Steps p.tables e below (s₁.setTop (mkF m 19 #[rv ra, rv rb, iv qq, oD d6, oS, iv (1 : Int32)] [(.double d6)])) _
    refine XS.aloadN X0.here hx rfl (hb hby d1_19) rfl rfl ?_
    show Steps p.tables e below (s₁.setTop (mkF m 20 #[rv ra, rv rb, iv qq, oD d6, oS, iv (1 : Int32)] [(.ref rb), (.double d6)])) _
    refine XS.iload X0.here hx rfl (hb hby d1_20) rfl ?_
    show Steps p.tables e below (s₁.setTop (mkF m 22 #[rv ra, rv rb, iv qq, oD d6, oS, iv (1 : Int32)] [(.int (1 : Int32)), (.ref rb), (.double d6)])) _
    obtain ⟨cl8, Ar8, q8, S8, N8, H8, G8⟩ := id V_rb
    have hin8 : ¬ ((1 : Int32) < 0 ∨ cl8.slots.size ≤ ((1 : Int32)).toNatClampNeg) := inb_of S8 ⟨by decide, by decide⟩
    have hat8 : cl8.slots[((1 : Int32)).toNatClampNeg]? = some (.double we1) := H8.at hin8 rfl
    refine X0.daload hx (j := (1 : Int32)) (v := (.double we1)) (by rw [show s₁.heap = h0 from e0]; exact Ar8.1) (State.isArrayOf_alike hZ.alike Ar8.2.1) Ar8.2.2 hin8 hat8 (g := (mkF m 22 #[rv ra, rv rb, iv qq, oD d6, oS, iv (1 : Int32)] [(.int (1 : Int32)), (.ref rb), (.double d6)])) rfl rfl (hb hby d1_22) _ ?_
    show Steps p.tables e below (s₁.setTop (mkF m 23 #[rv ra, rv rb, iv qq, oD d6, oS, iv (1 : Int32)] [(.double we1), (.double d6)])) _
    refine XS.aloadN X0.here hx rfl (hb hby d1_23) rfl rfl ?_
    show Steps p.tables e below (s₁.setTop (mkF m 24 #[rv ra, rv rb, iv qq, oD d6, oS, iv (1 : Int32)] [(.ref ra), (.double we1), (.double d6)])) _
    refine XS.iload X0.here hx rfl (hb hby d1_24) rfl ?_
    show Steps p.tables e below (s₁.setTop (mkF m 26 #[rv ra, rv rb, iv qq, oD d6, oS, iv (1 : Int32)] [(.int (1 : Int32)), (.ref ra), (.double we1), (.double d6)])) _
    obtain ⟨cl9, Ar9, q9, S9, N9, H9, G9⟩ := id V_ra
    have hin9 : ¬ ((1 : Int32) < 0 ∨ cl9.slots.size ≤ ((1 : Int32)).toNatClampNeg) := inb_of S9 ⟨by decide, by decide⟩
    have hat9 : cl9.slots[((1 : Int32)).toNatClampNeg]? = some (.double rd1) := H9.at hin9 rfl
    refine X0.daload hx (j := (1 : Int32)) (v := (.double rd1)) (by rw [show s₁.heap = h0 from e0]; exact Ar9.1) (State.isArrayOf_alike hZ.alike Ar9.2.1) Ar9.2.2 hin9 hat9 (g := (mkF m 26 #[rv ra, rv rb, iv qq, oD d6, oS, iv (1 : Int32)] [(.int (1 : Int32)), (.ref ra), (.double we1), (.double d6)])) rfl rfl (hb hby d1_26) _ ?_
    show Steps p.tables e below (s₁.setTop (mkF m 27 #[rv ra, rv rb, iv qq, oD d6, oS, iv (1 : Int32)] [(.double rd1), (.double we1), (.double d6)])) _
    exact k
  have Y10 : own_Dy (wj1 * rk1) 33554432 (FP.dmul we1 rd1) := (own_dmul Ye1 Yd1 (by decide))
  refine own_by (fun t k => XS.dmulS X0.here hx rfl (hb hby d1_27) rfl (own_nnY Y10) rfl k) ?_
  generalize (FP.dmul we1 rd1) = d10 at Y10 ⊢
  show own_Go p e below _ (s₁.setTop (mkF m 28 #[rv ra, rv rb, iv qq, oD d6, oS, iv (1 : Int32)] [(.double d10), (.double d6)]))
  have Y11 : own_Dy ((0 + (wj0 * rk0)) + (wj1 * rk1)) 67108864 (FP.dadd d6 d10) := (own_dadd Y6 Y10 (by decide))
  refine own_by (fun t k => XS.daddS X0.here hx rfl (hb hby d1_28) rfl (own_nnY Y11) rfl k) ?_
  generalize (FP.dadd d6 d10) = d11 at Y11 ⊢
  show own_Go p e below _ (s₁.setTop (mkF m 29 #[rv ra, rv rb, iv qq, oD d6, oS, iv (1 : Int32)] [(.double d11)]))
  refine own_by (B := s₁.setTop (mkF m 37 #[rv ra, rv rb, iv qq, oD d11, oS, iv (2 : Int32)] [(.double d11)])) (fun t k => ?_) ?_
  · show Steps p.tables e below (s₁.setTop (mkF m 29 #[rv ra, rv rb, iv qq, oD d6, oS, iv (1 : Int32)] [(.double d11)])) _
    refine XS.dstoreN X0.here hx rfl (hb hby d1_29) rfl (l' := #[rv ra, rv rb, iv qq, oD d11, oS, iv (1 : Int32)]) rfl ?_
    show Steps p.tables e below (s₁.setTop (mkF m 30 #[rv ra, rv rb, iv qq, oD d11, oS, iv (1 : Int32)] [])) _
    refine XS.iinc X0.here hx rfl (hb hby d1_30) rfl (l' := #[rv ra, rv rb, iv qq, oD d11, oS, iv (2 : Int32)]) rfl ?_
    show Steps p.tables e below (s₁.setTop (mkF m 33 #[rv ra, rv rb, iv qq, oD d11, oS, iv (2 : Int32)] [])) _
    refine XS.goto X0.here hx rfl (pc0 := 33) (pc' := 5) rfl (hb hby d1_33) (by decide) (by decide) ?_
    show Steps p.tables e below (s₁.setTop (mkF m 5 #[rv ra, rv rb, iv qq, oD d11, oS, iv (2 : Int32)] [])) _
    refine XS.iload X0.here hx rfl (hb hby d1_5) rfl ?_
    show Steps p.tables e below (s₁.setTop (mkF m 7 #[rv ra, rv rb, iv qq, oD d11, oS, iv (2 : Int32)] [(.int (2 : Int32))])) _
    refine XS.aloadN X0.here hx rfl (hb hby d1_7) rfl rfl ?_
    show Steps p.tables e below (s₁.setTop (mkF m 8 #[rv ra, rv rb, iv qq, oD d11, oS, iv (2 : Int32)] [(.ref ra), (.int (2 : Int32))])) _
    obtain ⟨cl12, Ar12, -, S12, N12, -, -⟩ := id V_ra
    refine X0.arraylength hx (by rw [show s₁.heap = h0 from e0]; exact Ar12.1) (State.isArrayOf_alike hZ.alike Ar12.2.1) (g := (mkF m 8 #[rv ra, rv rb, iv qq, oD d11, oS, iv (2 : Int32)] [(.ref ra), (.int (2 : Int32))])) rfl rfl (hb hby d1_8) _ ?_
    rw [len_of S12 N12]
    show Steps p.tables e below (s₁.setTop (mkF m 9 #[rv ra, rv rb, iv qq, oD d11, oS, iv (2 : Int32)] [(.int (2 : Int32)), (.int (2 : Int32))])) _
    refine XS.icmpYes X0.here hx rfl (pc0 := 9) (pc' := 36) rfl (hb hby d1_9) rfl (flt (by decide : ¬ ((2 : Int32) < (2 : Int32)))).2.1 (by decide) (by decide) ?_
    show Steps p.tables e below (s₁.setTop (mkF m 36 #[rv ra, rv rb, iv qq, oD d11, oS, iv (2 : Int32)] [])) _
    refine XS.dloadN X0.here hx rfl (hb hby d1_36) rfl ?_
    show Steps p.tables e below (s₁.setTop (mkF m 37 #[rv ra, rv rb, iv qq, oD d11, oS, iv (2 : Int32)] [(.double d11)])) _
    exact k
  exact own_retD X0 Bd.notSynchronized hx Bd.returns (hb hby d1_37) (by
      try rw [show s₁.heap = h0 from e0]
      exact ⟨d11, rfl, N0, rfl, Y11⟩) (by decide) (by decide)

def Q1_20 (Z : State) (ra : Addr) (rb : Addr) (qq : Int32) (ka : ClassId) (kb : ClassId) (rd0 : UInt64) (rd1 : UInt64) (we0 : UInt64) (we1 : UInt64) (rk0 : Int) (rk1 : Int) (wj0 : Int) (wj1 : Int) (h0 : Heap) (n0 : Nat) (v : Option Value) (h : Heap) (L : List Loc) : Prop := ∃ x : UInt64, v = some (.double x) ∧ Fr n0 L ∧ h = h0 ∧ own_Dy (0 + (wj1 * rk1)) 33554432 x
set_option maxRecDepth 65536 in
set_option maxHeartbeats 40000000 in
theorem rm1_20 (l : Launch) (Z : State) (a0 : Array Value) (hw : ∀ d ∈ tables_1, d.before a0 Z = true) (ws : List Jvm.Cond) (ra : Addr) (rb : Addr) (qq : Int32) (ka : ClassId) (kb : ClassId) (rd0 : UInt64) (rd1 : UInt64) (we0 : UInt64) (we1 : UInt64) (rk0 : Int) (rk1 : Int) (wj0 : Int) (wj1 : Int) (h0 : Heap) (n0 : Nat) (Z0 : n0 ≤ h0.size) (V_ra : Arv Z h0 ra ka .double (2 : Int32) [(.double rd0), (.double rd1)] (.double (0 : UInt64))) (V_rb : Arv Z h0 rb kb .double (2 : Int32) [(.double we0), (.double we1)] (.double (0 : UInt64))) (Yd0 : own_Dy rk0 1024 rd0) (Ye0 : own_Di wj0 32768 we0) (Yd1 : own_Dy rk1 1024 rd1) (Ye1 : own_Di wj1 32768 we1) (hq0 : (0 : Int32) = qq) (hq1 : ¬ ((1 : Int32) = qq)) :
    MetFree l (⟨"com/example/rivulet/rivulet/flow/Flow", "expected", "([D[DI)D"⟩ : MethodName) (head1 (Jvm.Cond.code (⟨"com/example/rivulet/rivulet/flow/Flow", "expected", "([D[DI)D"⟩ : MethodName) prog_17_method_4_code 6 (some .double) :: ws) ({ frames := 0, cells := 0, slots := 0, locals := 0 } : Room)) (fun a U => a = #[(.ref ra), (.ref rb), (.int qq)] ∧ Z.Warmed39 U.vm ∧ U.heap = h0) (fun _ _ _ _ _ => True) (fun _ U o U' => ∃ v L, o = .returned v ∧ Q1_20 Z ra rb qq ka kb rd0 rd1 we0 we1 rk0 rk1 wj0 wj1 h0 n0 v U'.heap L ∧ FrameEnd U o U' L ({ frames := 0, cells := 0, slots := 0, locals := 0 } : Room).cells ({ frames := 0, cells := 0, slots := 0, locals := 0 } : Room).slots) := by
  refine MetFree.of_bodySF (plainFor_of_name pn_1) hisR ?_
  intro p e s m args below meth c s₁ Bd hml0 hP hK
  obtain ⟨rfl, hZ, hh⟩ := hP
  have hx := Bd.exec
  have hby := Bd.bytes
  have hml : c.maxLocals = 6 := hml0
  have hown : s.vm.findClass "com/example/rivulet/rivulet/flow/Flow" = some m.cls := findClass_of_methodNamed Bd.named
  have hnm := (name_of_methodNamed Bd.named Bd.method).1
  have X0 : Stand p l e ({ frames := 0, cells := 0, slots := 0, locals := 0 } : Room) s m #[(.ref ra), (.ref rb), (.int qq)] below meth c s₁ [] 0 0 := Stand.of_body Bd
  have e0 : s₁.heap = h0 := by rw [← hh, Bd.state]; rfl
  have N0 := Fr.nil n0
  change own_Go p e below (own_Post s (Q1_20 Z ra rb qq ka kb rd0 rd1 we0 we1 rk0 rk1 wj0 wj1 h0 n0) ({ frames := 0, cells := 0, slots := 0, locals := 0 } : Room).cells ({ frames := 0, cells := 0, slots := 0, locals := 0 } : Room).slots) (s₁.setTop (entryFrame m #[(.ref ra), (.ref rb), (.int qq)] 6))
  refine own_by (fun t k => castTop (ef_1 m ra rb qq) k) ?_
  show own_Go p e below _ (s₁.setTop (mkF m 0 #[rv ra, rv rb, iv qq, oU, oU, oU] []))
  refine own_by (fun t k => XS.dconst0 X0.here hx rfl (hb hby d1_0) own_dz k) ?_
  show own_Go p e below _ (s₁.setTop (mkF m 1 #[rv ra, rv rb, iv qq, oU, oU, oU] [(.double (0 : UInt64))]))
  refine own_by (B := s₁.setTop (mkF m 27 #[rv ra, rv rb, iv qq, oD (0 : UInt64), oS, iv (1 : Int32)] [(.double rd1), (.double we1), (.double (0 : UInt64))])) (fun t k => ?_) ?_
  · show Steps p.tables e below (s₁.setTop (mkF m 1 #[rv ra, rv rb, iv qq, oU, oU, oU] [(.double (0 : UInt64))])) _
    refine XS.dstoreN X0.here hx rfl (hb hby d1_1) rfl (l' := #[rv ra, rv rb, iv qq, oD (0 : UInt64), oS, oU]) rfl ?_
    show Steps p.tables e below (s₁.setTop (mkF m 2 #[rv ra, rv rb, iv qq, oD (0 : UInt64), oS, oU] [])) _
    refine XS.iconst X0.here hx rfl (hb hby d1_2) ?_
    show Steps p.tables e below (s₁.setTop (mkF m 3 #[rv ra, rv rb, iv qq, oD (0 : UInt64), oS, oU] [(.int (0 : Int32))])) _
    refine XS.istore X0.here hx rfl (hb hby d1_3) rfl (l' := #[rv ra, rv rb, iv qq, oD (0 : UInt64), oS, iv (0 : Int32)]) rfl ?_
    show Steps p.tables e below (s₁.setTop (mkF m 5 #[rv ra, rv rb, iv qq, oD (0 : UInt64), oS, iv (0 : Int32)] [])) _
    refine XS.iload X0.here hx rfl (hb hby d1_5) rfl ?_
    show Steps p.tables e below (s₁.setTop (mkF m 7 #[rv ra, rv rb, iv qq, oD (0 : UInt64), oS, iv (0 : Int32)] [(.int (0 : Int32))])) _
    refine XS.aloadN X0.here hx rfl (hb hby d1_7) rfl rfl ?_
    show Steps p.tables e below (s₁.setTop (mkF m 8 #[rv ra, rv rb, iv qq, oD (0 : UInt64), oS, iv (0 : Int32)] [(.ref ra), (.int (0 : Int32))])) _
    obtain ⟨cl2, Ar2, -, S2, N2, -, -⟩ := id V_ra
    refine X0.arraylength hx (by rw [show s₁.heap = h0 from e0]; exact Ar2.1) (State.isArrayOf_alike hZ.alike Ar2.2.1) (g := (mkF m 8 #[rv ra, rv rb, iv qq, oD (0 : UInt64), oS, iv (0 : Int32)] [(.ref ra), (.int (0 : Int32))])) rfl rfl (hb hby d1_8) _ ?_
    rw [len_of S2 N2]
    show Steps p.tables e below (s₁.setTop (mkF m 9 #[rv ra, rv rb, iv qq, oD (0 : UInt64), oS, iv (0 : Int32)] [(.int (2 : Int32)), (.int (0 : Int32))])) _
    refine XS.icmpNo X0.here hx rfl (hb hby d1_9) rfl (tlt (by decide : (0 : Int32) < (2 : Int32))).2.1 ?_
    show Steps p.tables e below (s₁.setTop (mkF m 12 #[rv ra, rv rb, iv qq, oD (0 : UInt64), oS, iv (0 : Int32)] [])) _
    refine XS.iload X0.here hx rfl (hb hby d1_12) rfl ?_
    show Steps p.tables e below (s₁.setTop (mkF m 14 #[rv ra, rv rb, iv qq, oD (0 : UInt64), oS, iv (0 : Int32)] [(.int (0 : Int32))])) _
    refine XS.iloadN X0.here hx rfl (hb hby d1_14) rfl ?_
    show Steps p.tables e below (s₁.setTop (mkF m 15 #[rv ra, rv rb, iv qq, oD (0 : UInt64), oS, iv (0 : Int32)] [(.int qq), (.int (0 : Int32))])) _
    refine XS.icmpYes X0.here hx rfl (pc0 := 15) (pc' := 30) rfl (hb hby d1_15) rfl (teq hq0).1 (by decide) (by decide) ?_
    show Steps p.tables e below (s₁.setTop (mkF m 30 #[rv ra, rv rb, iv qq, oD (0 : UInt64), oS, iv (0 : Int32)] [])) _
    refine XS.iinc X0.here hx rfl (hb hby d1_30) rfl (l' := #[rv ra, rv rb, iv qq, oD (0 : UInt64), oS, iv (1 : Int32)]) rfl ?_
    show Steps p.tables e below (s₁.setTop (mkF m 33 #[rv ra, rv rb, iv qq, oD (0 : UInt64), oS, iv (1 : Int32)] [])) _
    refine XS.goto X0.here hx rfl (pc0 := 33) (pc' := 5) rfl (hb hby d1_33) (by decide) (by decide) ?_
    show Steps p.tables e below (s₁.setTop (mkF m 5 #[rv ra, rv rb, iv qq, oD (0 : UInt64), oS, iv (1 : Int32)] [])) _
    refine XS.iload X0.here hx rfl (hb hby d1_5) rfl ?_
    show Steps p.tables e below (s₁.setTop (mkF m 7 #[rv ra, rv rb, iv qq, oD (0 : UInt64), oS, iv (1 : Int32)] [(.int (1 : Int32))])) _
    refine XS.aloadN X0.here hx rfl (hb hby d1_7) rfl rfl ?_
    show Steps p.tables e below (s₁.setTop (mkF m 8 #[rv ra, rv rb, iv qq, oD (0 : UInt64), oS, iv (1 : Int32)] [(.ref ra), (.int (1 : Int32))])) _
    obtain ⟨cl3, Ar3, -, S3, N3, -, -⟩ := id V_ra
    refine X0.arraylength hx (by rw [show s₁.heap = h0 from e0]; exact Ar3.1) (State.isArrayOf_alike hZ.alike Ar3.2.1) (g := (mkF m 8 #[rv ra, rv rb, iv qq, oD (0 : UInt64), oS, iv (1 : Int32)] [(.ref ra), (.int (1 : Int32))])) rfl rfl (hb hby d1_8) _ ?_
    rw [len_of S3 N3]
    show Steps p.tables e below (s₁.setTop (mkF m 9 #[rv ra, rv rb, iv qq, oD (0 : UInt64), oS, iv (1 : Int32)] [(.int (2 : Int32)), (.int (1 : Int32))])) _
    refine XS.icmpNo X0.here hx rfl (hb hby d1_9) rfl (tlt (by decide : (1 : Int32) < (2 : Int32))).2.1 ?_
    show Steps p.tables e below (s₁.setTop (mkF m 12 #[rv ra, rv rb, iv qq, oD (0 : UInt64), oS, iv (1 : Int32)] [])) _
    refine XS.iload X0.here hx rfl (hb hby d1_12) rfl ?_
    show Steps p.tables e below (s₁.setTop (mkF m 14 #[rv ra, rv rb, iv qq, oD (0 : UInt64), oS, iv (1 : Int32)] [(.int (1 : Int32))])) _
    refine XS.iloadN X0.here hx rfl (hb hby d1_14) rfl ?_
    show Steps p.tables e below (s₁.setTop (mkF m 15 #[rv ra, rv rb, iv qq, oD (0 : UInt64), oS, iv (1 : Int32)] [(.int qq), (.int (1 : Int32))])) _
    refine XS.icmpNo X0.here hx rfl (hb hby d1_15) rfl (feq hq1).1 ?_
    show Steps p.tables e below (s₁.setTop (mkF m 18 #[rv ra, rv rb, iv qq, oD (0 : UInt64), oS, iv (1 : Int32)] [])) _
    refine XS.dloadN X0.here hx rfl (hb hby d1_18) rfl ?_
    show Steps p.tables e below (s₁.setTop (mkF m 19 #[rv ra, rv rb, iv qq, oD (0 : UInt64), oS, iv (1 : Int32)] [(.double (0 : UInt64))])) _
    refine XS.aloadN X0.here hx rfl (hb hby d1_19) rfl rfl ?_
    show Steps p.tables e below (s₁.setTop (mkF m 20 #[rv ra, rv rb, iv qq, oD (0 : UInt64), oS, iv (1 : Int32)] [(.ref rb), (.double (0 : UInt64))])) _
    refine XS.iload X0.here hx rfl (hb hby d1_20) rfl ?_
    show Steps p.tables e below (s₁.setTop (mkF m 22 #[rv ra, rv rb, iv qq, oD (0 : UInt64), oS, iv (1 : Int32)] [(.int (1 : Int32)), (.ref rb), (.double (0 : UInt64))])) _
    obtain ⟨cl4, Ar4, q4, S4, N4, H4, G4⟩ := id V_rb
    have hin4 : ¬ ((1 : Int32) < 0 ∨ cl4.slots.size ≤ ((1 : Int32)).toNatClampNeg) := inb_of S4 ⟨by decide, by decide⟩
    have hat4 : cl4.slots[((1 : Int32)).toNatClampNeg]? = some (.double we1) := H4.at hin4 rfl
    refine X0.daload hx (j := (1 : Int32)) (v := (.double we1)) (by rw [show s₁.heap = h0 from e0]; exact Ar4.1) (State.isArrayOf_alike hZ.alike Ar4.2.1) Ar4.2.2 hin4 hat4 (g := (mkF m 22 #[rv ra, rv rb, iv qq, oD (0 : UInt64), oS, iv (1 : Int32)] [(.int (1 : Int32)), (.ref rb), (.double (0 : UInt64))])) rfl rfl (hb hby d1_22) _ ?_
    show Steps p.tables e below (s₁.setTop (mkF m 23 #[rv ra, rv rb, iv qq, oD (0 : UInt64), oS, iv (1 : Int32)] [(.double we1), (.double (0 : UInt64))])) _
    refine XS.aloadN X0.here hx rfl (hb hby d1_23) rfl rfl ?_
    show Steps p.tables e below (s₁.setTop (mkF m 24 #[rv ra, rv rb, iv qq, oD (0 : UInt64), oS, iv (1 : Int32)] [(.ref ra), (.double we1), (.double (0 : UInt64))])) _
    refine XS.iload X0.here hx rfl (hb hby d1_24) rfl ?_
    show Steps p.tables e below (s₁.setTop (mkF m 26 #[rv ra, rv rb, iv qq, oD (0 : UInt64), oS, iv (1 : Int32)] [(.int (1 : Int32)), (.ref ra), (.double we1), (.double (0 : UInt64))])) _
    obtain ⟨cl5, Ar5, q5, S5, N5, H5, G5⟩ := id V_ra
    have hin5 : ¬ ((1 : Int32) < 0 ∨ cl5.slots.size ≤ ((1 : Int32)).toNatClampNeg) := inb_of S5 ⟨by decide, by decide⟩
    have hat5 : cl5.slots[((1 : Int32)).toNatClampNeg]? = some (.double rd1) := H5.at hin5 rfl
    refine X0.daload hx (j := (1 : Int32)) (v := (.double rd1)) (by rw [show s₁.heap = h0 from e0]; exact Ar5.1) (State.isArrayOf_alike hZ.alike Ar5.2.1) Ar5.2.2 hin5 hat5 (g := (mkF m 26 #[rv ra, rv rb, iv qq, oD (0 : UInt64), oS, iv (1 : Int32)] [(.int (1 : Int32)), (.ref ra), (.double we1), (.double (0 : UInt64))])) rfl rfl (hb hby d1_26) _ ?_
    show Steps p.tables e below (s₁.setTop (mkF m 27 #[rv ra, rv rb, iv qq, oD (0 : UInt64), oS, iv (1 : Int32)] [(.double rd1), (.double we1), (.double (0 : UInt64))])) _
    exact k
  have Y6 : own_Dy (wj1 * rk1) 33554432 (FP.dmul we1 rd1) := (own_dmul Ye1 Yd1 (by decide))
  refine own_by (fun t k => XS.dmulS X0.here hx rfl (hb hby d1_27) rfl (own_nnY Y6) rfl k) ?_
  generalize (FP.dmul we1 rd1) = d6 at Y6 ⊢
  show own_Go p e below _ (s₁.setTop (mkF m 28 #[rv ra, rv rb, iv qq, oD (0 : UInt64), oS, iv (1 : Int32)] [(.double d6), (.double (0 : UInt64))]))
  have Y7 : own_Dy (0 + (wj1 * rk1)) 33554432 (FP.dadd (0 : UInt64) d6) := (own_dadd own_d0 Y6 (by decide))
  refine own_by (fun t k => XS.daddS X0.here hx rfl (hb hby d1_28) rfl (own_nnY Y7) rfl k) ?_
  generalize (FP.dadd (0 : UInt64) d6) = d7 at Y7 ⊢
  show own_Go p e below _ (s₁.setTop (mkF m 29 #[rv ra, rv rb, iv qq, oD (0 : UInt64), oS, iv (1 : Int32)] [(.double d7)]))
  refine own_by (B := s₁.setTop (mkF m 37 #[rv ra, rv rb, iv qq, oD d7, oS, iv (2 : Int32)] [(.double d7)])) (fun t k => ?_) ?_
  · show Steps p.tables e below (s₁.setTop (mkF m 29 #[rv ra, rv rb, iv qq, oD (0 : UInt64), oS, iv (1 : Int32)] [(.double d7)])) _
    refine XS.dstoreN X0.here hx rfl (hb hby d1_29) rfl (l' := #[rv ra, rv rb, iv qq, oD d7, oS, iv (1 : Int32)]) rfl ?_
    show Steps p.tables e below (s₁.setTop (mkF m 30 #[rv ra, rv rb, iv qq, oD d7, oS, iv (1 : Int32)] [])) _
    refine XS.iinc X0.here hx rfl (hb hby d1_30) rfl (l' := #[rv ra, rv rb, iv qq, oD d7, oS, iv (2 : Int32)]) rfl ?_
    show Steps p.tables e below (s₁.setTop (mkF m 33 #[rv ra, rv rb, iv qq, oD d7, oS, iv (2 : Int32)] [])) _
    refine XS.goto X0.here hx rfl (pc0 := 33) (pc' := 5) rfl (hb hby d1_33) (by decide) (by decide) ?_
    show Steps p.tables e below (s₁.setTop (mkF m 5 #[rv ra, rv rb, iv qq, oD d7, oS, iv (2 : Int32)] [])) _
    refine XS.iload X0.here hx rfl (hb hby d1_5) rfl ?_
    show Steps p.tables e below (s₁.setTop (mkF m 7 #[rv ra, rv rb, iv qq, oD d7, oS, iv (2 : Int32)] [(.int (2 : Int32))])) _
    refine XS.aloadN X0.here hx rfl (hb hby d1_7) rfl rfl ?_
    show Steps p.tables e below (s₁.setTop (mkF m 8 #[rv ra, rv rb, iv qq, oD d7, oS, iv (2 : Int32)] [(.ref ra), (.int (2 : Int32))])) _
    obtain ⟨cl8, Ar8, -, S8, N8, -, -⟩ := id V_ra
    refine X0.arraylength hx (by rw [show s₁.heap = h0 from e0]; exact Ar8.1) (State.isArrayOf_alike hZ.alike Ar8.2.1) (g := (mkF m 8 #[rv ra, rv rb, iv qq, oD d7, oS, iv (2 : Int32)] [(.ref ra), (.int (2 : Int32))])) rfl rfl (hb hby d1_8) _ ?_
    rw [len_of S8 N8]
    show Steps p.tables e below (s₁.setTop (mkF m 9 #[rv ra, rv rb, iv qq, oD d7, oS, iv (2 : Int32)] [(.int (2 : Int32)), (.int (2 : Int32))])) _
    refine XS.icmpYes X0.here hx rfl (pc0 := 9) (pc' := 36) rfl (hb hby d1_9) rfl (flt (by decide : ¬ ((2 : Int32) < (2 : Int32)))).2.1 (by decide) (by decide) ?_
    show Steps p.tables e below (s₁.setTop (mkF m 36 #[rv ra, rv rb, iv qq, oD d7, oS, iv (2 : Int32)] [])) _
    refine XS.dloadN X0.here hx rfl (hb hby d1_36) rfl ?_
    show Steps p.tables e below (s₁.setTop (mkF m 37 #[rv ra, rv rb, iv qq, oD d7, oS, iv (2 : Int32)] [(.double d7)])) _
    exact k
  exact own_retD X0 Bd.notSynchronized hx Bd.returns (hb hby d1_37) (by
      try rw [show s₁.heap = h0 from e0]
      exact ⟨d7, rfl, N0, rfl, Y7⟩) (by decide) (by decide)

def Q1_21 (Z : State) (ra : Addr) (rb : Addr) (qq : Int32) (ka : ClassId) (kb : ClassId) (rd0 : UInt64) (rd1 : UInt64) (we0 : UInt64) (we1 : UInt64) (rk0 : Int) (rk1 : Int) (wj0 : Int) (wj1 : Int) (h0 : Heap) (n0 : Nat) (v : Option Value) (h : Heap) (L : List Loc) : Prop := ∃ x : UInt64, v = some (.double x) ∧ Fr n0 L ∧ h = h0 ∧ own_Dy (0 + (wj0 * rk0)) 33554432 x
set_option maxRecDepth 65536 in
set_option maxHeartbeats 40000000 in
theorem rm1_21 (l : Launch) (Z : State) (a0 : Array Value) (hw : ∀ d ∈ tables_1, d.before a0 Z = true) (ws : List Jvm.Cond) (ra : Addr) (rb : Addr) (qq : Int32) (ka : ClassId) (kb : ClassId) (rd0 : UInt64) (rd1 : UInt64) (we0 : UInt64) (we1 : UInt64) (rk0 : Int) (rk1 : Int) (wj0 : Int) (wj1 : Int) (h0 : Heap) (n0 : Nat) (Z0 : n0 ≤ h0.size) (V_ra : Arv Z h0 ra ka .double (2 : Int32) [(.double rd0), (.double rd1)] (.double (0 : UInt64))) (V_rb : Arv Z h0 rb kb .double (2 : Int32) [(.double we0), (.double we1)] (.double (0 : UInt64))) (Yd0 : own_Dy rk0 1024 rd0) (Ye0 : own_Di wj0 32768 we0) (Yd1 : own_Dy rk1 1024 rd1) (Ye1 : own_Di wj1 32768 we1) (hq0 : ¬ ((0 : Int32) = qq)) (hq1 : (1 : Int32) = qq) :
    MetFree l (⟨"com/example/rivulet/rivulet/flow/Flow", "expected", "([D[DI)D"⟩ : MethodName) (head1 (Jvm.Cond.code (⟨"com/example/rivulet/rivulet/flow/Flow", "expected", "([D[DI)D"⟩ : MethodName) prog_17_method_4_code 6 (some .double) :: ws) ({ frames := 0, cells := 0, slots := 0, locals := 0 } : Room)) (fun a U => a = #[(.ref ra), (.ref rb), (.int qq)] ∧ Z.Warmed39 U.vm ∧ U.heap = h0) (fun _ _ _ _ _ => True) (fun _ U o U' => ∃ v L, o = .returned v ∧ Q1_21 Z ra rb qq ka kb rd0 rd1 we0 we1 rk0 rk1 wj0 wj1 h0 n0 v U'.heap L ∧ FrameEnd U o U' L ({ frames := 0, cells := 0, slots := 0, locals := 0 } : Room).cells ({ frames := 0, cells := 0, slots := 0, locals := 0 } : Room).slots) := by
  refine MetFree.of_bodySF (plainFor_of_name pn_1) hisR ?_
  intro p e s m args below meth c s₁ Bd hml0 hP hK
  obtain ⟨rfl, hZ, hh⟩ := hP
  have hx := Bd.exec
  have hby := Bd.bytes
  have hml : c.maxLocals = 6 := hml0
  have hown : s.vm.findClass "com/example/rivulet/rivulet/flow/Flow" = some m.cls := findClass_of_methodNamed Bd.named
  have hnm := (name_of_methodNamed Bd.named Bd.method).1
  have X0 : Stand p l e ({ frames := 0, cells := 0, slots := 0, locals := 0 } : Room) s m #[(.ref ra), (.ref rb), (.int qq)] below meth c s₁ [] 0 0 := Stand.of_body Bd
  have e0 : s₁.heap = h0 := by rw [← hh, Bd.state]; rfl
  have N0 := Fr.nil n0
  change own_Go p e below (own_Post s (Q1_21 Z ra rb qq ka kb rd0 rd1 we0 we1 rk0 rk1 wj0 wj1 h0 n0) ({ frames := 0, cells := 0, slots := 0, locals := 0 } : Room).cells ({ frames := 0, cells := 0, slots := 0, locals := 0 } : Room).slots) (s₁.setTop (entryFrame m #[(.ref ra), (.ref rb), (.int qq)] 6))
  refine own_by (fun t k => castTop (ef_1 m ra rb qq) k) ?_
  show own_Go p e below _ (s₁.setTop (mkF m 0 #[rv ra, rv rb, iv qq, oU, oU, oU] []))
  refine own_by (fun t k => XS.dconst0 X0.here hx rfl (hb hby d1_0) own_dz k) ?_
  show own_Go p e below _ (s₁.setTop (mkF m 1 #[rv ra, rv rb, iv qq, oU, oU, oU] [(.double (0 : UInt64))]))
  refine own_by (B := s₁.setTop (mkF m 27 #[rv ra, rv rb, iv qq, oD (0 : UInt64), oS, iv (0 : Int32)] [(.double rd0), (.double we0), (.double (0 : UInt64))])) (fun t k => ?_) ?_
  · show Steps p.tables e below (s₁.setTop (mkF m 1 #[rv ra, rv rb, iv qq, oU, oU, oU] [(.double (0 : UInt64))])) _
    refine XS.dstoreN X0.here hx rfl (hb hby d1_1) rfl (l' := #[rv ra, rv rb, iv qq, oD (0 : UInt64), oS, oU]) rfl ?_
    show Steps p.tables e below (s₁.setTop (mkF m 2 #[rv ra, rv rb, iv qq, oD (0 : UInt64), oS, oU] [])) _
    refine XS.iconst X0.here hx rfl (hb hby d1_2) ?_
    show Steps p.tables e below (s₁.setTop (mkF m 3 #[rv ra, rv rb, iv qq, oD (0 : UInt64), oS, oU] [(.int (0 : Int32))])) _
    refine XS.istore X0.here hx rfl (hb hby d1_3) rfl (l' := #[rv ra, rv rb, iv qq, oD (0 : UInt64), oS, iv (0 : Int32)]) rfl ?_
    show Steps p.tables e below (s₁.setTop (mkF m 5 #[rv ra, rv rb, iv qq, oD (0 : UInt64), oS, iv (0 : Int32)] [])) _
    refine XS.iload X0.here hx rfl (hb hby d1_5) rfl ?_
    show Steps p.tables e below (s₁.setTop (mkF m 7 #[rv ra, rv rb, iv qq, oD (0 : UInt64), oS, iv (0 : Int32)] [(.int (0 : Int32))])) _
    refine XS.aloadN X0.here hx rfl (hb hby d1_7) rfl rfl ?_
    show Steps p.tables e below (s₁.setTop (mkF m 8 #[rv ra, rv rb, iv qq, oD (0 : UInt64), oS, iv (0 : Int32)] [(.ref ra), (.int (0 : Int32))])) _
    obtain ⟨cl2, Ar2, -, S2, N2, -, -⟩ := id V_ra
    refine X0.arraylength hx (by rw [show s₁.heap = h0 from e0]; exact Ar2.1) (State.isArrayOf_alike hZ.alike Ar2.2.1) (g := (mkF m 8 #[rv ra, rv rb, iv qq, oD (0 : UInt64), oS, iv (0 : Int32)] [(.ref ra), (.int (0 : Int32))])) rfl rfl (hb hby d1_8) _ ?_
    rw [len_of S2 N2]
    show Steps p.tables e below (s₁.setTop (mkF m 9 #[rv ra, rv rb, iv qq, oD (0 : UInt64), oS, iv (0 : Int32)] [(.int (2 : Int32)), (.int (0 : Int32))])) _
    refine XS.icmpNo X0.here hx rfl (hb hby d1_9) rfl (tlt (by decide : (0 : Int32) < (2 : Int32))).2.1 ?_
    show Steps p.tables e below (s₁.setTop (mkF m 12 #[rv ra, rv rb, iv qq, oD (0 : UInt64), oS, iv (0 : Int32)] [])) _
    refine XS.iload X0.here hx rfl (hb hby d1_12) rfl ?_
    show Steps p.tables e below (s₁.setTop (mkF m 14 #[rv ra, rv rb, iv qq, oD (0 : UInt64), oS, iv (0 : Int32)] [(.int (0 : Int32))])) _
    refine XS.iloadN X0.here hx rfl (hb hby d1_14) rfl ?_
    show Steps p.tables e below (s₁.setTop (mkF m 15 #[rv ra, rv rb, iv qq, oD (0 : UInt64), oS, iv (0 : Int32)] [(.int qq), (.int (0 : Int32))])) _
    refine XS.icmpNo X0.here hx rfl (hb hby d1_15) rfl (feq hq0).1 ?_
    show Steps p.tables e below (s₁.setTop (mkF m 18 #[rv ra, rv rb, iv qq, oD (0 : UInt64), oS, iv (0 : Int32)] [])) _
    refine XS.dloadN X0.here hx rfl (hb hby d1_18) rfl ?_
    show Steps p.tables e below (s₁.setTop (mkF m 19 #[rv ra, rv rb, iv qq, oD (0 : UInt64), oS, iv (0 : Int32)] [(.double (0 : UInt64))])) _
    refine XS.aloadN X0.here hx rfl (hb hby d1_19) rfl rfl ?_
    show Steps p.tables e below (s₁.setTop (mkF m 20 #[rv ra, rv rb, iv qq, oD (0 : UInt64), oS, iv (0 : Int32)] [(.ref rb), (.double (0 : UInt64))])) _
    refine XS.iload X0.here hx rfl (hb hby d1_20) rfl ?_
    show Steps p.tables e below (s₁.setTop (mkF m 22 #[rv ra, rv rb, iv qq, oD (0 : UInt64), oS, iv (0 : Int32)] [(.int (0 : Int32)), (.ref rb), (.double (0 : UInt64))])) _
    obtain ⟨cl3, Ar3, q3, S3, N3, H3, G3⟩ := id V_rb
    have hin3 : ¬ ((0 : Int32) < 0 ∨ cl3.slots.size ≤ ((0 : Int32)).toNatClampNeg) := inb_of S3 ⟨by decide, by decide⟩
    have hat3 : cl3.slots[((0 : Int32)).toNatClampNeg]? = some (.double we0) := H3.at hin3 rfl
    refine X0.daload hx (j := (0 : Int32)) (v := (.double we0)) (by rw [show s₁.heap = h0 from e0]; exact Ar3.1) (State.isArrayOf_alike hZ.alike Ar3.2.1) Ar3.2.2 hin3 hat3 (g := (mkF m 22 #[rv ra, rv rb, iv qq, oD (0 : UInt64), oS, iv (0 : Int32)] [(.int (0 : Int32)), (.ref rb), (.double (0 : UInt64))])) rfl rfl (hb hby d1_22) _ ?_
    show Steps p.tables e below (s₁.setTop (mkF m 23 #[rv ra, rv rb, iv qq, oD (0 : UInt64), oS, iv (0 : Int32)] [(.double we0), (.double (0 : UInt64))])) _
    refine XS.aloadN X0.here hx rfl (hb hby d1_23) rfl rfl ?_
    show Steps p.tables e below (s₁.setTop (mkF m 24 #[rv ra, rv rb, iv qq, oD (0 : UInt64), oS, iv (0 : Int32)] [(.ref ra), (.double we0), (.double (0 : UInt64))])) _
    refine XS.iload X0.here hx rfl (hb hby d1_24) rfl ?_
    show Steps p.tables e below (s₁.setTop (mkF m 26 #[rv ra, rv rb, iv qq, oD (0 : UInt64), oS, iv (0 : Int32)] [(.int (0 : Int32)), (.ref ra), (.double we0), (.double (0 : UInt64))])) _
    obtain ⟨cl4, Ar4, q4, S4, N4, H4, G4⟩ := id V_ra
    have hin4 : ¬ ((0 : Int32) < 0 ∨ cl4.slots.size ≤ ((0 : Int32)).toNatClampNeg) := inb_of S4 ⟨by decide, by decide⟩
    have hat4 : cl4.slots[((0 : Int32)).toNatClampNeg]? = some (.double rd0) := H4.at hin4 rfl
    refine X0.daload hx (j := (0 : Int32)) (v := (.double rd0)) (by rw [show s₁.heap = h0 from e0]; exact Ar4.1) (State.isArrayOf_alike hZ.alike Ar4.2.1) Ar4.2.2 hin4 hat4 (g := (mkF m 26 #[rv ra, rv rb, iv qq, oD (0 : UInt64), oS, iv (0 : Int32)] [(.int (0 : Int32)), (.ref ra), (.double we0), (.double (0 : UInt64))])) rfl rfl (hb hby d1_26) _ ?_
    show Steps p.tables e below (s₁.setTop (mkF m 27 #[rv ra, rv rb, iv qq, oD (0 : UInt64), oS, iv (0 : Int32)] [(.double rd0), (.double we0), (.double (0 : UInt64))])) _
    exact k
  have Y5 : own_Dy (wj0 * rk0) 33554432 (FP.dmul we0 rd0) := (own_dmul Ye0 Yd0 (by decide))
  refine own_by (fun t k => XS.dmulS X0.here hx rfl (hb hby d1_27) rfl (own_nnY Y5) rfl k) ?_
  generalize (FP.dmul we0 rd0) = d5 at Y5 ⊢
  show own_Go p e below _ (s₁.setTop (mkF m 28 #[rv ra, rv rb, iv qq, oD (0 : UInt64), oS, iv (0 : Int32)] [(.double d5), (.double (0 : UInt64))]))
  have Y6 : own_Dy (0 + (wj0 * rk0)) 33554432 (FP.dadd (0 : UInt64) d5) := (own_dadd own_d0 Y5 (by decide))
  refine own_by (fun t k => XS.daddS X0.here hx rfl (hb hby d1_28) rfl (own_nnY Y6) rfl k) ?_
  generalize (FP.dadd (0 : UInt64) d5) = d6 at Y6 ⊢
  show own_Go p e below _ (s₁.setTop (mkF m 29 #[rv ra, rv rb, iv qq, oD (0 : UInt64), oS, iv (0 : Int32)] [(.double d6)]))
  refine own_by (B := s₁.setTop (mkF m 37 #[rv ra, rv rb, iv qq, oD d6, oS, iv (2 : Int32)] [(.double d6)])) (fun t k => ?_) ?_
  · show Steps p.tables e below (s₁.setTop (mkF m 29 #[rv ra, rv rb, iv qq, oD (0 : UInt64), oS, iv (0 : Int32)] [(.double d6)])) _
    refine XS.dstoreN X0.here hx rfl (hb hby d1_29) rfl (l' := #[rv ra, rv rb, iv qq, oD d6, oS, iv (0 : Int32)]) rfl ?_
    show Steps p.tables e below (s₁.setTop (mkF m 30 #[rv ra, rv rb, iv qq, oD d6, oS, iv (0 : Int32)] [])) _
    refine XS.iinc X0.here hx rfl (hb hby d1_30) rfl (l' := #[rv ra, rv rb, iv qq, oD d6, oS, iv (1 : Int32)]) rfl ?_
    show Steps p.tables e below (s₁.setTop (mkF m 33 #[rv ra, rv rb, iv qq, oD d6, oS, iv (1 : Int32)] [])) _
    refine XS.goto X0.here hx rfl (pc0 := 33) (pc' := 5) rfl (hb hby d1_33) (by decide) (by decide) ?_
    show Steps p.tables e below (s₁.setTop (mkF m 5 #[rv ra, rv rb, iv qq, oD d6, oS, iv (1 : Int32)] [])) _
    refine XS.iload X0.here hx rfl (hb hby d1_5) rfl ?_
    show Steps p.tables e below (s₁.setTop (mkF m 7 #[rv ra, rv rb, iv qq, oD d6, oS, iv (1 : Int32)] [(.int (1 : Int32))])) _
    refine XS.aloadN X0.here hx rfl (hb hby d1_7) rfl rfl ?_
    show Steps p.tables e below (s₁.setTop (mkF m 8 #[rv ra, rv rb, iv qq, oD d6, oS, iv (1 : Int32)] [(.ref ra), (.int (1 : Int32))])) _
    obtain ⟨cl7, Ar7, -, S7, N7, -, -⟩ := id V_ra
    refine X0.arraylength hx (by rw [show s₁.heap = h0 from e0]; exact Ar7.1) (State.isArrayOf_alike hZ.alike Ar7.2.1) (g := (mkF m 8 #[rv ra, rv rb, iv qq, oD d6, oS, iv (1 : Int32)] [(.ref ra), (.int (1 : Int32))])) rfl rfl (hb hby d1_8) _ ?_
    rw [len_of S7 N7]
    show Steps p.tables e below (s₁.setTop (mkF m 9 #[rv ra, rv rb, iv qq, oD d6, oS, iv (1 : Int32)] [(.int (2 : Int32)), (.int (1 : Int32))])) _
    refine XS.icmpNo X0.here hx rfl (hb hby d1_9) rfl (tlt (by decide : (1 : Int32) < (2 : Int32))).2.1 ?_
    show Steps p.tables e below (s₁.setTop (mkF m 12 #[rv ra, rv rb, iv qq, oD d6, oS, iv (1 : Int32)] [])) _
    refine XS.iload X0.here hx rfl (hb hby d1_12) rfl ?_
    show Steps p.tables e below (s₁.setTop (mkF m 14 #[rv ra, rv rb, iv qq, oD d6, oS, iv (1 : Int32)] [(.int (1 : Int32))])) _
    refine XS.iloadN X0.here hx rfl (hb hby d1_14) rfl ?_
    show Steps p.tables e below (s₁.setTop (mkF m 15 #[rv ra, rv rb, iv qq, oD d6, oS, iv (1 : Int32)] [(.int qq), (.int (1 : Int32))])) _
    refine XS.icmpYes X0.here hx rfl (pc0 := 15) (pc' := 30) rfl (hb hby d1_15) rfl (teq hq1).1 (by decide) (by decide) ?_
    show Steps p.tables e below (s₁.setTop (mkF m 30 #[rv ra, rv rb, iv qq, oD d6, oS, iv (1 : Int32)] [])) _
    refine XS.iinc X0.here hx rfl (hb hby d1_30) rfl (l' := #[rv ra, rv rb, iv qq, oD d6, oS, iv (2 : Int32)]) rfl ?_
    show Steps p.tables e below (s₁.setTop (mkF m 33 #[rv ra, rv rb, iv qq, oD d6, oS, iv (2 : Int32)] [])) _
    refine XS.goto X0.here hx rfl (pc0 := 33) (pc' := 5) rfl (hb hby d1_33) (by decide) (by decide) ?_
    show Steps p.tables e below (s₁.setTop (mkF m 5 #[rv ra, rv rb, iv qq, oD d6, oS, iv (2 : Int32)] [])) _
    refine XS.iload X0.here hx rfl (hb hby d1_5) rfl ?_
    show Steps p.tables e below (s₁.setTop (mkF m 7 #[rv ra, rv rb, iv qq, oD d6, oS, iv (2 : Int32)] [(.int (2 : Int32))])) _
    refine XS.aloadN X0.here hx rfl (hb hby d1_7) rfl rfl ?_
    show Steps p.tables e below (s₁.setTop (mkF m 8 #[rv ra, rv rb, iv qq, oD d6, oS, iv (2 : Int32)] [(.ref ra), (.int (2 : Int32))])) _
    obtain ⟨cl8, Ar8, -, S8, N8, -, -⟩ := id V_ra
    refine X0.arraylength hx (by rw [show s₁.heap = h0 from e0]; exact Ar8.1) (State.isArrayOf_alike hZ.alike Ar8.2.1) (g := (mkF m 8 #[rv ra, rv rb, iv qq, oD d6, oS, iv (2 : Int32)] [(.ref ra), (.int (2 : Int32))])) rfl rfl (hb hby d1_8) _ ?_
    rw [len_of S8 N8]
    show Steps p.tables e below (s₁.setTop (mkF m 9 #[rv ra, rv rb, iv qq, oD d6, oS, iv (2 : Int32)] [(.int (2 : Int32)), (.int (2 : Int32))])) _
    refine XS.icmpYes X0.here hx rfl (pc0 := 9) (pc' := 36) rfl (hb hby d1_9) rfl (flt (by decide : ¬ ((2 : Int32) < (2 : Int32)))).2.1 (by decide) (by decide) ?_
    show Steps p.tables e below (s₁.setTop (mkF m 36 #[rv ra, rv rb, iv qq, oD d6, oS, iv (2 : Int32)] [])) _
    refine XS.dloadN X0.here hx rfl (hb hby d1_36) rfl ?_
    show Steps p.tables e below (s₁.setTop (mkF m 37 #[rv ra, rv rb, iv qq, oD d6, oS, iv (2 : Int32)] [(.double d6)])) _
    exact k
  exact own_retD X0 Bd.notSynchronized hx Bd.returns (hb hby d1_37) (by
      try rw [show s₁.heap = h0 from e0]
      exact ⟨d6, rfl, N0, rfl, Y6⟩) (by decide) (by decide)

def Q1_3n (Z : State) (ra : Addr) (rb : Addr) (qq : Int32) (ka : ClassId) (kb : ClassId) (rd0 : UInt64) (rd1 : UInt64) (rd2 : UInt64) (we0 : UInt64) (we1 : UInt64) (we2 : UInt64) (rk0 : Int) (rk1 : Int) (rk2 : Int) (wj0 : Int) (wj1 : Int) (wj2 : Int) (h0 : Heap) (n0 : Nat) (v : Option Value) (h : Heap) (L : List Loc) : Prop := ∃ x : UInt64, v = some (.double x) ∧ Fr n0 L ∧ h = h0 ∧ own_Dy (((0 + (wj0 * rk0)) + (wj1 * rk1)) + (wj2 * rk2)) 100663296 x
set_option maxRecDepth 65536 in
set_option maxHeartbeats 40000000 in
theorem rm1_3n (l : Launch) (Z : State) (a0 : Array Value) (hw : ∀ d ∈ tables_1, d.before a0 Z = true) (ws : List Jvm.Cond) (ra : Addr) (rb : Addr) (qq : Int32) (ka : ClassId) (kb : ClassId) (rd0 : UInt64) (rd1 : UInt64) (rd2 : UInt64) (we0 : UInt64) (we1 : UInt64) (we2 : UInt64) (rk0 : Int) (rk1 : Int) (rk2 : Int) (wj0 : Int) (wj1 : Int) (wj2 : Int) (h0 : Heap) (n0 : Nat) (Z0 : n0 ≤ h0.size) (V_ra : Arv Z h0 ra ka .double (3 : Int32) [(.double rd0), (.double rd1), (.double rd2)] (.double (0 : UInt64))) (V_rb : Arv Z h0 rb kb .double (3 : Int32) [(.double we0), (.double we1), (.double we2)] (.double (0 : UInt64))) (Yd0 : own_Dy rk0 1024 rd0) (Ye0 : own_Di wj0 32768 we0) (Yd1 : own_Dy rk1 1024 rd1) (Ye1 : own_Di wj1 32768 we1) (Yd2 : own_Dy rk2 1024 rd2) (Ye2 : own_Di wj2 32768 we2) (hq0 : ¬ ((0 : Int32) = qq)) (hq1 : ¬ ((1 : Int32) = qq)) (hq2 : ¬ ((2 : Int32) = qq)) :
    MetFree l (⟨"com/example/rivulet/rivulet/flow/Flow", "expected", "([D[DI)D"⟩ : MethodName) (head1 (Jvm.Cond.code (⟨"com/example/rivulet/rivulet/flow/Flow", "expected", "([D[DI)D"⟩ : MethodName) prog_17_method_4_code 6 (some .double) :: ws) ({ frames := 0, cells := 0, slots := 0, locals := 0 } : Room)) (fun a U => a = #[(.ref ra), (.ref rb), (.int qq)] ∧ Z.Warmed39 U.vm ∧ U.heap = h0) (fun _ _ _ _ _ => True) (fun _ U o U' => ∃ v L, o = .returned v ∧ Q1_3n Z ra rb qq ka kb rd0 rd1 rd2 we0 we1 we2 rk0 rk1 rk2 wj0 wj1 wj2 h0 n0 v U'.heap L ∧ FrameEnd U o U' L ({ frames := 0, cells := 0, slots := 0, locals := 0 } : Room).cells ({ frames := 0, cells := 0, slots := 0, locals := 0 } : Room).slots) := by
  refine MetFree.of_bodySF (plainFor_of_name pn_1) hisR ?_
  intro p e s m args below meth c s₁ Bd hml0 hP hK
  obtain ⟨rfl, hZ, hh⟩ := hP
  have hx := Bd.exec
  have hby := Bd.bytes
  have hml : c.maxLocals = 6 := hml0
  have hown : s.vm.findClass "com/example/rivulet/rivulet/flow/Flow" = some m.cls := findClass_of_methodNamed Bd.named
  have hnm := (name_of_methodNamed Bd.named Bd.method).1
  have X0 : Stand p l e ({ frames := 0, cells := 0, slots := 0, locals := 0 } : Room) s m #[(.ref ra), (.ref rb), (.int qq)] below meth c s₁ [] 0 0 := Stand.of_body Bd
  have e0 : s₁.heap = h0 := by rw [← hh, Bd.state]; rfl
  have N0 := Fr.nil n0
  change own_Go p e below (own_Post s (Q1_3n Z ra rb qq ka kb rd0 rd1 rd2 we0 we1 we2 rk0 rk1 rk2 wj0 wj1 wj2 h0 n0) ({ frames := 0, cells := 0, slots := 0, locals := 0 } : Room).cells ({ frames := 0, cells := 0, slots := 0, locals := 0 } : Room).slots) (s₁.setTop (entryFrame m #[(.ref ra), (.ref rb), (.int qq)] 6))
  refine own_by (fun t k => castTop (ef_1 m ra rb qq) k) ?_
  show own_Go p e below _ (s₁.setTop (mkF m 0 #[rv ra, rv rb, iv qq, oU, oU, oU] []))
  refine own_by (fun t k => XS.dconst0 X0.here hx rfl (hb hby d1_0) own_dz k) ?_
  show own_Go p e below _ (s₁.setTop (mkF m 1 #[rv ra, rv rb, iv qq, oU, oU, oU] [(.double (0 : UInt64))]))
  refine own_by (B := s₁.setTop (mkF m 27 #[rv ra, rv rb, iv qq, oD (0 : UInt64), oS, iv (0 : Int32)] [(.double rd0), (.double we0), (.double (0 : UInt64))])) (fun t k => ?_) ?_
  · show Steps p.tables e below (s₁.setTop (mkF m 1 #[rv ra, rv rb, iv qq, oU, oU, oU] [(.double (0 : UInt64))])) _
    refine XS.dstoreN X0.here hx rfl (hb hby d1_1) rfl (l' := #[rv ra, rv rb, iv qq, oD (0 : UInt64), oS, oU]) rfl ?_
    show Steps p.tables e below (s₁.setTop (mkF m 2 #[rv ra, rv rb, iv qq, oD (0 : UInt64), oS, oU] [])) _
    refine XS.iconst X0.here hx rfl (hb hby d1_2) ?_
    show Steps p.tables e below (s₁.setTop (mkF m 3 #[rv ra, rv rb, iv qq, oD (0 : UInt64), oS, oU] [(.int (0 : Int32))])) _
    refine XS.istore X0.here hx rfl (hb hby d1_3) rfl (l' := #[rv ra, rv rb, iv qq, oD (0 : UInt64), oS, iv (0 : Int32)]) rfl ?_
    show Steps p.tables e below (s₁.setTop (mkF m 5 #[rv ra, rv rb, iv qq, oD (0 : UInt64), oS, iv (0 : Int32)] [])) _
    refine XS.iload X0.here hx rfl (hb hby d1_5) rfl ?_
    show Steps p.tables e below (s₁.setTop (mkF m 7 #[rv ra, rv rb, iv qq, oD (0 : UInt64), oS, iv (0 : Int32)] [(.int (0 : Int32))])) _
    refine XS.aloadN X0.here hx rfl (hb hby d1_7) rfl rfl ?_
    show Steps p.tables e below (s₁.setTop (mkF m 8 #[rv ra, rv rb, iv qq, oD (0 : UInt64), oS, iv (0 : Int32)] [(.ref ra), (.int (0 : Int32))])) _
    obtain ⟨cl2, Ar2, -, S2, N2, -, -⟩ := id V_ra
    refine X0.arraylength hx (by rw [show s₁.heap = h0 from e0]; exact Ar2.1) (State.isArrayOf_alike hZ.alike Ar2.2.1) (g := (mkF m 8 #[rv ra, rv rb, iv qq, oD (0 : UInt64), oS, iv (0 : Int32)] [(.ref ra), (.int (0 : Int32))])) rfl rfl (hb hby d1_8) _ ?_
    rw [len_of S2 N2]
    show Steps p.tables e below (s₁.setTop (mkF m 9 #[rv ra, rv rb, iv qq, oD (0 : UInt64), oS, iv (0 : Int32)] [(.int (3 : Int32)), (.int (0 : Int32))])) _
    refine XS.icmpNo X0.here hx rfl (hb hby d1_9) rfl (tlt (by decide : (0 : Int32) < (3 : Int32))).2.1 ?_
    show Steps p.tables e below (s₁.setTop (mkF m 12 #[rv ra, rv rb, iv qq, oD (0 : UInt64), oS, iv (0 : Int32)] [])) _
    refine XS.iload X0.here hx rfl (hb hby d1_12) rfl ?_
    show Steps p.tables e below (s₁.setTop (mkF m 14 #[rv ra, rv rb, iv qq, oD (0 : UInt64), oS, iv (0 : Int32)] [(.int (0 : Int32))])) _
    refine XS.iloadN X0.here hx rfl (hb hby d1_14) rfl ?_
    show Steps p.tables e below (s₁.setTop (mkF m 15 #[rv ra, rv rb, iv qq, oD (0 : UInt64), oS, iv (0 : Int32)] [(.int qq), (.int (0 : Int32))])) _
    refine XS.icmpNo X0.here hx rfl (hb hby d1_15) rfl (feq hq0).1 ?_
    show Steps p.tables e below (s₁.setTop (mkF m 18 #[rv ra, rv rb, iv qq, oD (0 : UInt64), oS, iv (0 : Int32)] [])) _
    refine XS.dloadN X0.here hx rfl (hb hby d1_18) rfl ?_
    show Steps p.tables e below (s₁.setTop (mkF m 19 #[rv ra, rv rb, iv qq, oD (0 : UInt64), oS, iv (0 : Int32)] [(.double (0 : UInt64))])) _
    refine XS.aloadN X0.here hx rfl (hb hby d1_19) rfl rfl ?_
    show Steps p.tables e below (s₁.setTop (mkF m 20 #[rv ra, rv rb, iv qq, oD (0 : UInt64), oS, iv (0 : Int32)] [(.ref rb), (.double (0 : UInt64))])) _
    refine XS.iload X0.here hx rfl (hb hby d1_20) rfl ?_
    show Steps p.tables e below (s₁.setTop (mkF m 22 #[rv ra, rv rb, iv qq, oD (0 : UInt64), oS, iv (0 : Int32)] [(.int (0 : Int32)), (.ref rb), (.double (0 : UInt64))])) _
    obtain ⟨cl3, Ar3, q3, S3, N3, H3, G3⟩ := id V_rb
    have hin3 : ¬ ((0 : Int32) < 0 ∨ cl3.slots.size ≤ ((0 : Int32)).toNatClampNeg) := inb_of S3 ⟨by decide, by decide⟩
    have hat3 : cl3.slots[((0 : Int32)).toNatClampNeg]? = some (.double we0) := H3.at hin3 rfl
    refine X0.daload hx (j := (0 : Int32)) (v := (.double we0)) (by rw [show s₁.heap = h0 from e0]; exact Ar3.1) (State.isArrayOf_alike hZ.alike Ar3.2.1) Ar3.2.2 hin3 hat3 (g := (mkF m 22 #[rv ra, rv rb, iv qq, oD (0 : UInt64), oS, iv (0 : Int32)] [(.int (0 : Int32)), (.ref rb), (.double (0 : UInt64))])) rfl rfl (hb hby d1_22) _ ?_
    show Steps p.tables e below (s₁.setTop (mkF m 23 #[rv ra, rv rb, iv qq, oD (0 : UInt64), oS, iv (0 : Int32)] [(.double we0), (.double (0 : UInt64))])) _
    refine XS.aloadN X0.here hx rfl (hb hby d1_23) rfl rfl ?_
    show Steps p.tables e below (s₁.setTop (mkF m 24 #[rv ra, rv rb, iv qq, oD (0 : UInt64), oS, iv (0 : Int32)] [(.ref ra), (.double we0), (.double (0 : UInt64))])) _
    refine XS.iload X0.here hx rfl (hb hby d1_24) rfl ?_
    show Steps p.tables e below (s₁.setTop (mkF m 26 #[rv ra, rv rb, iv qq, oD (0 : UInt64), oS, iv (0 : Int32)] [(.int (0 : Int32)), (.ref ra), (.double we0), (.double (0 : UInt64))])) _
    obtain ⟨cl4, Ar4, q4, S4, N4, H4, G4⟩ := id V_ra
    have hin4 : ¬ ((0 : Int32) < 0 ∨ cl4.slots.size ≤ ((0 : Int32)).toNatClampNeg) := inb_of S4 ⟨by decide, by decide⟩
    have hat4 : cl4.slots[((0 : Int32)).toNatClampNeg]? = some (.double rd0) := H4.at hin4 rfl
    refine X0.daload hx (j := (0 : Int32)) (v := (.double rd0)) (by rw [show s₁.heap = h0 from e0]; exact Ar4.1) (State.isArrayOf_alike hZ.alike Ar4.2.1) Ar4.2.2 hin4 hat4 (g := (mkF m 26 #[rv ra, rv rb, iv qq, oD (0 : UInt64), oS, iv (0 : Int32)] [(.int (0 : Int32)), (.ref ra), (.double we0), (.double (0 : UInt64))])) rfl rfl (hb hby d1_26) _ ?_
    show Steps p.tables e below (s₁.setTop (mkF m 27 #[rv ra, rv rb, iv qq, oD (0 : UInt64), oS, iv (0 : Int32)] [(.double rd0), (.double we0), (.double (0 : UInt64))])) _
    exact k
  have Y5 : own_Dy (wj0 * rk0) 33554432 (FP.dmul we0 rd0) := (own_dmul Ye0 Yd0 (by decide))
  refine own_by (fun t k => XS.dmulS X0.here hx rfl (hb hby d1_27) rfl (own_nnY Y5) rfl k) ?_
  generalize (FP.dmul we0 rd0) = d5 at Y5 ⊢
  show own_Go p e below _ (s₁.setTop (mkF m 28 #[rv ra, rv rb, iv qq, oD (0 : UInt64), oS, iv (0 : Int32)] [(.double d5), (.double (0 : UInt64))]))
  have Y6 : own_Dy (0 + (wj0 * rk0)) 33554432 (FP.dadd (0 : UInt64) d5) := (own_dadd own_d0 Y5 (by decide))
  refine own_by (fun t k => XS.daddS X0.here hx rfl (hb hby d1_28) rfl (own_nnY Y6) rfl k) ?_
  generalize (FP.dadd (0 : UInt64) d5) = d6 at Y6 ⊢
  show own_Go p e below _ (s₁.setTop (mkF m 29 #[rv ra, rv rb, iv qq, oD (0 : UInt64), oS, iv (0 : Int32)] [(.double d6)]))
  refine own_by (B := s₁.setTop (mkF m 27 #[rv ra, rv rb, iv qq, oD d6, oS, iv (1 : Int32)] [(.double rd1), (.double we1), (.double d6)])) (fun t k => ?_) ?_
  · show Steps p.tables e below (s₁.setTop (mkF m 29 #[rv ra, rv rb, iv qq, oD (0 : UInt64), oS, iv (0 : Int32)] [(.double d6)])) _
    refine XS.dstoreN X0.here hx rfl (hb hby d1_29) rfl (l' := #[rv ra, rv rb, iv qq, oD d6, oS, iv (0 : Int32)]) rfl ?_
    show Steps p.tables e below (s₁.setTop (mkF m 30 #[rv ra, rv rb, iv qq, oD d6, oS, iv (0 : Int32)] [])) _
    refine XS.iinc X0.here hx rfl (hb hby d1_30) rfl (l' := #[rv ra, rv rb, iv qq, oD d6, oS, iv (1 : Int32)]) rfl ?_
    show Steps p.tables e below (s₁.setTop (mkF m 33 #[rv ra, rv rb, iv qq, oD d6, oS, iv (1 : Int32)] [])) _
    refine XS.goto X0.here hx rfl (pc0 := 33) (pc' := 5) rfl (hb hby d1_33) (by decide) (by decide) ?_
    show Steps p.tables e below (s₁.setTop (mkF m 5 #[rv ra, rv rb, iv qq, oD d6, oS, iv (1 : Int32)] [])) _
    refine XS.iload X0.here hx rfl (hb hby d1_5) rfl ?_
    show Steps p.tables e below (s₁.setTop (mkF m 7 #[rv ra, rv rb, iv qq, oD d6, oS, iv (1 : Int32)] [(.int (1 : Int32))])) _
    refine XS.aloadN X0.here hx rfl (hb hby d1_7) rfl rfl ?_
    show Steps p.tables e below (s₁.setTop (mkF m 8 #[rv ra, rv rb, iv qq, oD d6, oS, iv (1 : Int32)] [(.ref ra), (.int (1 : Int32))])) _
    obtain ⟨cl7, Ar7, -, S7, N7, -, -⟩ := id V_ra
    refine X0.arraylength hx (by rw [show s₁.heap = h0 from e0]; exact Ar7.1) (State.isArrayOf_alike hZ.alike Ar7.2.1) (g := (mkF m 8 #[rv ra, rv rb, iv qq, oD d6, oS, iv (1 : Int32)] [(.ref ra), (.int (1 : Int32))])) rfl rfl (hb hby d1_8) _ ?_
    rw [len_of S7 N7]
    show Steps p.tables e below (s₁.setTop (mkF m 9 #[rv ra, rv rb, iv qq, oD d6, oS, iv (1 : Int32)] [(.int (3 : Int32)), (.int (1 : Int32))])) _
    refine XS.icmpNo X0.here hx rfl (hb hby d1_9) rfl (tlt (by decide : (1 : Int32) < (3 : Int32))).2.1 ?_
    show Steps p.tables e below (s₁.setTop (mkF m 12 #[rv ra, rv rb, iv qq, oD d6, oS, iv (1 : Int32)] [])) _
    refine XS.iload X0.here hx rfl (hb hby d1_12) rfl ?_
    show Steps p.tables e below (s₁.setTop (mkF m 14 #[rv ra, rv rb, iv qq, oD d6, oS, iv (1 : Int32)] [(.int (1 : Int32))])) _
    refine XS.iloadN X0.here hx rfl (hb hby d1_14) rfl ?_
    show Steps p.tables e below (s₁.setTop (mkF m 15 #[rv ra, rv rb, iv qq, oD d6, oS, iv (1 : Int32)] [(.int qq), (.int (1 : Int32))])) _
    refine XS.icmpNo X0.here hx rfl (hb hby d1_15) rfl (feq hq1).1 ?_
    show Steps p.tables e below (s₁.setTop (mkF m 18 #[rv ra, rv rb, iv qq, oD d6, oS, iv (1 : Int32)] [])) _
    refine XS.dloadN X0.here hx rfl (hb hby d1_18) rfl ?_
    show Steps p.tables e below (s₁.setTop (mkF m 19 #[rv ra, rv rb, iv qq, oD d6, oS, iv (1 : Int32)] [(.double d6)])) _
    refine XS.aloadN X0.here hx rfl (hb hby d1_19) rfl rfl ?_
    show Steps p.tables e below (s₁.setTop (mkF m 20 #[rv ra, rv rb, iv qq, oD d6, oS, iv (1 : Int32)] [(.ref rb), (.double d6)])) _
    refine XS.iload X0.here hx rfl (hb hby d1_20) rfl ?_
    show Steps p.tables e below (s₁.setTop (mkF m 22 #[rv ra, rv rb, iv qq, oD d6, oS, iv (1 : Int32)] [(.int (1 : Int32)), (.ref rb), (.double d6)])) _
    obtain ⟨cl8, Ar8, q8, S8, N8, H8, G8⟩ := id V_rb
    have hin8 : ¬ ((1 : Int32) < 0 ∨ cl8.slots.size ≤ ((1 : Int32)).toNatClampNeg) := inb_of S8 ⟨by decide, by decide⟩
    have hat8 : cl8.slots[((1 : Int32)).toNatClampNeg]? = some (.double we1) := H8.at hin8 rfl
    refine X0.daload hx (j := (1 : Int32)) (v := (.double we1)) (by rw [show s₁.heap = h0 from e0]; exact Ar8.1) (State.isArrayOf_alike hZ.alike Ar8.2.1) Ar8.2.2 hin8 hat8 (g := (mkF m 22 #[rv ra, rv rb, iv qq, oD d6, oS, iv (1 : Int32)] [(.int (1 : Int32)), (.ref rb), (.double d6)])) rfl rfl (hb hby d1_22) _ ?_
    show Steps p.tables e below (s₁.setTop (mkF m 23 #[rv ra, rv rb, iv qq, oD d6, oS, iv (1 : Int32)] [(.double we1), (.double d6)])) _
    refine XS.aloadN X0.here hx rfl (hb hby d1_23) rfl rfl ?_
    show Steps p.tables e below (s₁.setTop (mkF m 24 #[rv ra, rv rb, iv qq, oD d6, oS, iv (1 : Int32)] [(.ref ra), (.double we1), (.double d6)])) _
    refine XS.iload X0.here hx rfl (hb hby d1_24) rfl ?_
    show Steps p.tables e below (s₁.setTop (mkF m 26 #[rv ra, rv rb, iv qq, oD d6, oS, iv (1 : Int32)] [(.int (1 : Int32)), (.ref ra), (.double we1), (.double d6)])) _
    obtain ⟨cl9, Ar9, q9, S9, N9, H9, G9⟩ := id V_ra
    have hin9 : ¬ ((1 : Int32) < 0 ∨ cl9.slots.size ≤ ((1 : Int32)).toNatClampNeg) := inb_of S9 ⟨by decide, by decide⟩
    have hat9 : cl9.slots[((1 : Int32)).toNatClampNeg]? = some (.double rd1) := H9.at hin9 rfl
    refine X0.daload hx (j := (1 : Int32)) (v := (.double rd1)) (by rw [show s₁.heap = h0 from e0]; exact Ar9.1) (State.isArrayOf_alike hZ.alike Ar9.2.1) Ar9.2.2 hin9 hat9 (g := (mkF m 26 #[rv ra, rv rb, iv qq, oD d6, oS, iv (1 : Int32)] [(.int (1 : Int32)), (.ref ra), (.double we1), (.double d6)])) rfl rfl (hb hby d1_26) _ ?_
    show Steps p.tables e below (s₁.setTop (mkF m 27 #[rv ra, rv rb, iv qq, oD d6, oS, iv (1 : Int32)] [(.double rd1), (.double we1), (.double d6)])) _
    exact k
  have Y10 : own_Dy (wj1 * rk1) 33554432 (FP.dmul we1 rd1) := (own_dmul Ye1 Yd1 (by decide))
  refine own_by (fun t k => XS.dmulS X0.here hx rfl (hb hby d1_27) rfl (own_nnY Y10) rfl k) ?_
  generalize (FP.dmul we1 rd1) = d10 at Y10 ⊢
  show own_Go p e below _ (s₁.setTop (mkF m 28 #[rv ra, rv rb, iv qq, oD d6, oS, iv (1 : Int32)] [(.double d10), (.double d6)]))
  have Y11 : own_Dy ((0 + (wj0 * rk0)) + (wj1 * rk1)) 67108864 (FP.dadd d6 d10) := (own_dadd Y6 Y10 (by decide))
  refine own_by (fun t k => XS.daddS X0.here hx rfl (hb hby d1_28) rfl (own_nnY Y11) rfl k) ?_
  generalize (FP.dadd d6 d10) = d11 at Y11 ⊢
  show own_Go p e below _ (s₁.setTop (mkF m 29 #[rv ra, rv rb, iv qq, oD d6, oS, iv (1 : Int32)] [(.double d11)]))
  refine own_by (B := s₁.setTop (mkF m 27 #[rv ra, rv rb, iv qq, oD d11, oS, iv (2 : Int32)] [(.double rd2), (.double we2), (.double d11)])) (fun t k => ?_) ?_
  · show Steps p.tables e below (s₁.setTop (mkF m 29 #[rv ra, rv rb, iv qq, oD d6, oS, iv (1 : Int32)] [(.double d11)])) _
    refine XS.dstoreN X0.here hx rfl (hb hby d1_29) rfl (l' := #[rv ra, rv rb, iv qq, oD d11, oS, iv (1 : Int32)]) rfl ?_
    show Steps p.tables e below (s₁.setTop (mkF m 30 #[rv ra, rv rb, iv qq, oD d11, oS, iv (1 : Int32)] [])) _
    refine XS.iinc X0.here hx rfl (hb hby d1_30) rfl (l' := #[rv ra, rv rb, iv qq, oD d11, oS, iv (2 : Int32)]) rfl ?_
    show Steps p.tables e below (s₁.setTop (mkF m 33 #[rv ra, rv rb, iv qq, oD d11, oS, iv (2 : Int32)] [])) _
    refine XS.goto X0.here hx rfl (pc0 := 33) (pc' := 5) rfl (hb hby d1_33) (by decide) (by decide) ?_
    show Steps p.tables e below (s₁.setTop (mkF m 5 #[rv ra, rv rb, iv qq, oD d11, oS, iv (2 : Int32)] [])) _
    refine XS.iload X0.here hx rfl (hb hby d1_5) rfl ?_
    show Steps p.tables e below (s₁.setTop (mkF m 7 #[rv ra, rv rb, iv qq, oD d11, oS, iv (2 : Int32)] [(.int (2 : Int32))])) _
    refine XS.aloadN X0.here hx rfl (hb hby d1_7) rfl rfl ?_
    show Steps p.tables e below (s₁.setTop (mkF m 8 #[rv ra, rv rb, iv qq, oD d11, oS, iv (2 : Int32)] [(.ref ra), (.int (2 : Int32))])) _
    obtain ⟨cl12, Ar12, -, S12, N12, -, -⟩ := id V_ra
    refine X0.arraylength hx (by rw [show s₁.heap = h0 from e0]; exact Ar12.1) (State.isArrayOf_alike hZ.alike Ar12.2.1) (g := (mkF m 8 #[rv ra, rv rb, iv qq, oD d11, oS, iv (2 : Int32)] [(.ref ra), (.int (2 : Int32))])) rfl rfl (hb hby d1_8) _ ?_
    rw [len_of S12 N12]
    show Steps p.tables e below (s₁.setTop (mkF m 9 #[rv ra, rv rb, iv qq, oD d11, oS, iv (2 : Int32)] [(.int (3 : Int32)), (.int (2 : Int32))])) _
    refine XS.icmpNo X0.here hx rfl (hb hby d1_9) rfl (tlt (by decide : (2 : Int32) < (3 : Int32))).2.1 ?_
    show Steps p.tables e below (s₁.setTop (mkF m 12 #[rv ra, rv rb, iv qq, oD d11, oS, iv (2 : Int32)] [])) _
    refine XS.iload X0.here hx rfl (hb hby d1_12) rfl ?_
    show Steps p.tables e below (s₁.setTop (mkF m 14 #[rv ra, rv rb, iv qq, oD d11, oS, iv (2 : Int32)] [(.int (2 : Int32))])) _
    refine XS.iloadN X0.here hx rfl (hb hby d1_14) rfl ?_
    show Steps p.tables e below (s₁.setTop (mkF m 15 #[rv ra, rv rb, iv qq, oD d11, oS, iv (2 : Int32)] [(.int qq), (.int (2 : Int32))])) _
    refine XS.icmpNo X0.here hx rfl (hb hby d1_15) rfl (feq hq2).1 ?_
    show Steps p.tables e below (s₁.setTop (mkF m 18 #[rv ra, rv rb, iv qq, oD d11, oS, iv (2 : Int32)] [])) _
    refine XS.dloadN X0.here hx rfl (hb hby d1_18) rfl ?_
    show Steps p.tables e below (s₁.setTop (mkF m 19 #[rv ra, rv rb, iv qq, oD d11, oS, iv (2 : Int32)] [(.double d11)])) _
    refine XS.aloadN X0.here hx rfl (hb hby d1_19) rfl rfl ?_
    show Steps p.tables e below (s₁.setTop (mkF m 20 #[rv ra, rv rb, iv qq, oD d11, oS, iv (2 : Int32)] [(.ref rb), (.double d11)])) _
    refine XS.iload X0.here hx rfl (hb hby d1_20) rfl ?_
    show Steps p.tables e below (s₁.setTop (mkF m 22 #[rv ra, rv rb, iv qq, oD d11, oS, iv (2 : Int32)] [(.int (2 : Int32)), (.ref rb), (.double d11)])) _
    obtain ⟨cl13, Ar13, q13, S13, N13, H13, G13⟩ := id V_rb
    have hin13 : ¬ ((2 : Int32) < 0 ∨ cl13.slots.size ≤ ((2 : Int32)).toNatClampNeg) := inb_of S13 ⟨by decide, by decide⟩
    have hat13 : cl13.slots[((2 : Int32)).toNatClampNeg]? = some (.double we2) := H13.at hin13 rfl
    refine X0.daload hx (j := (2 : Int32)) (v := (.double we2)) (by rw [show s₁.heap = h0 from e0]; exact Ar13.1) (State.isArrayOf_alike hZ.alike Ar13.2.1) Ar13.2.2 hin13 hat13 (g := (mkF m 22 #[rv ra, rv rb, iv qq, oD d11, oS, iv (2 : Int32)] [(.int (2 : Int32)), (.ref rb), (.double d11)])) rfl rfl (hb hby d1_22) _ ?_
    show Steps p.tables e below (s₁.setTop (mkF m 23 #[rv ra, rv rb, iv qq, oD d11, oS, iv (2 : Int32)] [(.double we2), (.double d11)])) _
    refine XS.aloadN X0.here hx rfl (hb hby d1_23) rfl rfl ?_
    show Steps p.tables e below (s₁.setTop (mkF m 24 #[rv ra, rv rb, iv qq, oD d11, oS, iv (2 : Int32)] [(.ref ra), (.double we2), (.double d11)])) _
    refine XS.iload X0.here hx rfl (hb hby d1_24) rfl ?_
    show Steps p.tables e below (s₁.setTop (mkF m 26 #[rv ra, rv rb, iv qq, oD d11, oS, iv (2 : Int32)] [(.int (2 : Int32)), (.ref ra), (.double we2), (.double d11)])) _
    obtain ⟨cl14, Ar14, q14, S14, N14, H14, G14⟩ := id V_ra
    have hin14 : ¬ ((2 : Int32) < 0 ∨ cl14.slots.size ≤ ((2 : Int32)).toNatClampNeg) := inb_of S14 ⟨by decide, by decide⟩
    have hat14 : cl14.slots[((2 : Int32)).toNatClampNeg]? = some (.double rd2) := H14.at hin14 rfl
    refine X0.daload hx (j := (2 : Int32)) (v := (.double rd2)) (by rw [show s₁.heap = h0 from e0]; exact Ar14.1) (State.isArrayOf_alike hZ.alike Ar14.2.1) Ar14.2.2 hin14 hat14 (g := (mkF m 26 #[rv ra, rv rb, iv qq, oD d11, oS, iv (2 : Int32)] [(.int (2 : Int32)), (.ref ra), (.double we2), (.double d11)])) rfl rfl (hb hby d1_26) _ ?_
    show Steps p.tables e below (s₁.setTop (mkF m 27 #[rv ra, rv rb, iv qq, oD d11, oS, iv (2 : Int32)] [(.double rd2), (.double we2), (.double d11)])) _
    exact k
  have Y15 : own_Dy (wj2 * rk2) 33554432 (FP.dmul we2 rd2) := (own_dmul Ye2 Yd2 (by decide))
  refine own_by (fun t k => XS.dmulS X0.here hx rfl (hb hby d1_27) rfl (own_nnY Y15) rfl k) ?_
  generalize (FP.dmul we2 rd2) = d15 at Y15 ⊢
  show own_Go p e below _ (s₁.setTop (mkF m 28 #[rv ra, rv rb, iv qq, oD d11, oS, iv (2 : Int32)] [(.double d15), (.double d11)]))
  have Y16 : own_Dy (((0 + (wj0 * rk0)) + (wj1 * rk1)) + (wj2 * rk2)) 100663296 (FP.dadd d11 d15) := (own_dadd Y11 Y15 (by decide))
  refine own_by (fun t k => XS.daddS X0.here hx rfl (hb hby d1_28) rfl (own_nnY Y16) rfl k) ?_
  generalize (FP.dadd d11 d15) = d16 at Y16 ⊢
  show own_Go p e below _ (s₁.setTop (mkF m 29 #[rv ra, rv rb, iv qq, oD d11, oS, iv (2 : Int32)] [(.double d16)]))
  refine own_by (B := s₁.setTop (mkF m 37 #[rv ra, rv rb, iv qq, oD d16, oS, iv (3 : Int32)] [(.double d16)])) (fun t k => ?_) ?_
  · show Steps p.tables e below (s₁.setTop (mkF m 29 #[rv ra, rv rb, iv qq, oD d11, oS, iv (2 : Int32)] [(.double d16)])) _
    refine XS.dstoreN X0.here hx rfl (hb hby d1_29) rfl (l' := #[rv ra, rv rb, iv qq, oD d16, oS, iv (2 : Int32)]) rfl ?_
    show Steps p.tables e below (s₁.setTop (mkF m 30 #[rv ra, rv rb, iv qq, oD d16, oS, iv (2 : Int32)] [])) _
    refine XS.iinc X0.here hx rfl (hb hby d1_30) rfl (l' := #[rv ra, rv rb, iv qq, oD d16, oS, iv (3 : Int32)]) rfl ?_
    show Steps p.tables e below (s₁.setTop (mkF m 33 #[rv ra, rv rb, iv qq, oD d16, oS, iv (3 : Int32)] [])) _
    refine XS.goto X0.here hx rfl (pc0 := 33) (pc' := 5) rfl (hb hby d1_33) (by decide) (by decide) ?_
    show Steps p.tables e below (s₁.setTop (mkF m 5 #[rv ra, rv rb, iv qq, oD d16, oS, iv (3 : Int32)] [])) _
    refine XS.iload X0.here hx rfl (hb hby d1_5) rfl ?_
    show Steps p.tables e below (s₁.setTop (mkF m 7 #[rv ra, rv rb, iv qq, oD d16, oS, iv (3 : Int32)] [(.int (3 : Int32))])) _
    refine XS.aloadN X0.here hx rfl (hb hby d1_7) rfl rfl ?_
    show Steps p.tables e below (s₁.setTop (mkF m 8 #[rv ra, rv rb, iv qq, oD d16, oS, iv (3 : Int32)] [(.ref ra), (.int (3 : Int32))])) _
    obtain ⟨cl17, Ar17, -, S17, N17, -, -⟩ := id V_ra
    refine X0.arraylength hx (by rw [show s₁.heap = h0 from e0]; exact Ar17.1) (State.isArrayOf_alike hZ.alike Ar17.2.1) (g := (mkF m 8 #[rv ra, rv rb, iv qq, oD d16, oS, iv (3 : Int32)] [(.ref ra), (.int (3 : Int32))])) rfl rfl (hb hby d1_8) _ ?_
    rw [len_of S17 N17]
    show Steps p.tables e below (s₁.setTop (mkF m 9 #[rv ra, rv rb, iv qq, oD d16, oS, iv (3 : Int32)] [(.int (3 : Int32)), (.int (3 : Int32))])) _
    refine XS.icmpYes X0.here hx rfl (pc0 := 9) (pc' := 36) rfl (hb hby d1_9) rfl (flt (by decide : ¬ ((3 : Int32) < (3 : Int32)))).2.1 (by decide) (by decide) ?_
    show Steps p.tables e below (s₁.setTop (mkF m 36 #[rv ra, rv rb, iv qq, oD d16, oS, iv (3 : Int32)] [])) _
    refine XS.dloadN X0.here hx rfl (hb hby d1_36) rfl ?_
    show Steps p.tables e below (s₁.setTop (mkF m 37 #[rv ra, rv rb, iv qq, oD d16, oS, iv (3 : Int32)] [(.double d16)])) _
    exact k
  exact own_retD X0 Bd.notSynchronized hx Bd.returns (hb hby d1_37) (by
      try rw [show s₁.heap = h0 from e0]
      exact ⟨d16, rfl, N0, rfl, Y16⟩) (by decide) (by decide)

def Q1_30 (Z : State) (ra : Addr) (rb : Addr) (qq : Int32) (ka : ClassId) (kb : ClassId) (rd0 : UInt64) (rd1 : UInt64) (rd2 : UInt64) (we0 : UInt64) (we1 : UInt64) (we2 : UInt64) (rk0 : Int) (rk1 : Int) (rk2 : Int) (wj0 : Int) (wj1 : Int) (wj2 : Int) (h0 : Heap) (n0 : Nat) (v : Option Value) (h : Heap) (L : List Loc) : Prop := ∃ x : UInt64, v = some (.double x) ∧ Fr n0 L ∧ h = h0 ∧ own_Dy ((0 + (wj1 * rk1)) + (wj2 * rk2)) 67108864 x
set_option maxRecDepth 65536 in
set_option maxHeartbeats 40000000 in
theorem rm1_30 (l : Launch) (Z : State) (a0 : Array Value) (hw : ∀ d ∈ tables_1, d.before a0 Z = true) (ws : List Jvm.Cond) (ra : Addr) (rb : Addr) (qq : Int32) (ka : ClassId) (kb : ClassId) (rd0 : UInt64) (rd1 : UInt64) (rd2 : UInt64) (we0 : UInt64) (we1 : UInt64) (we2 : UInt64) (rk0 : Int) (rk1 : Int) (rk2 : Int) (wj0 : Int) (wj1 : Int) (wj2 : Int) (h0 : Heap) (n0 : Nat) (Z0 : n0 ≤ h0.size) (V_ra : Arv Z h0 ra ka .double (3 : Int32) [(.double rd0), (.double rd1), (.double rd2)] (.double (0 : UInt64))) (V_rb : Arv Z h0 rb kb .double (3 : Int32) [(.double we0), (.double we1), (.double we2)] (.double (0 : UInt64))) (Yd0 : own_Dy rk0 1024 rd0) (Ye0 : own_Di wj0 32768 we0) (Yd1 : own_Dy rk1 1024 rd1) (Ye1 : own_Di wj1 32768 we1) (Yd2 : own_Dy rk2 1024 rd2) (Ye2 : own_Di wj2 32768 we2) (hq0 : (0 : Int32) = qq) (hq1 : ¬ ((1 : Int32) = qq)) (hq2 : ¬ ((2 : Int32) = qq)) :
    MetFree l (⟨"com/example/rivulet/rivulet/flow/Flow", "expected", "([D[DI)D"⟩ : MethodName) (head1 (Jvm.Cond.code (⟨"com/example/rivulet/rivulet/flow/Flow", "expected", "([D[DI)D"⟩ : MethodName) prog_17_method_4_code 6 (some .double) :: ws) ({ frames := 0, cells := 0, slots := 0, locals := 0 } : Room)) (fun a U => a = #[(.ref ra), (.ref rb), (.int qq)] ∧ Z.Warmed39 U.vm ∧ U.heap = h0) (fun _ _ _ _ _ => True) (fun _ U o U' => ∃ v L, o = .returned v ∧ Q1_30 Z ra rb qq ka kb rd0 rd1 rd2 we0 we1 we2 rk0 rk1 rk2 wj0 wj1 wj2 h0 n0 v U'.heap L ∧ FrameEnd U o U' L ({ frames := 0, cells := 0, slots := 0, locals := 0 } : Room).cells ({ frames := 0, cells := 0, slots := 0, locals := 0 } : Room).slots) := by
  refine MetFree.of_bodySF (plainFor_of_name pn_1) hisR ?_
  intro p e s m args below meth c s₁ Bd hml0 hP hK
  obtain ⟨rfl, hZ, hh⟩ := hP
  have hx := Bd.exec
  have hby := Bd.bytes
  have hml : c.maxLocals = 6 := hml0
  have hown : s.vm.findClass "com/example/rivulet/rivulet/flow/Flow" = some m.cls := findClass_of_methodNamed Bd.named
  have hnm := (name_of_methodNamed Bd.named Bd.method).1
  have X0 : Stand p l e ({ frames := 0, cells := 0, slots := 0, locals := 0 } : Room) s m #[(.ref ra), (.ref rb), (.int qq)] below meth c s₁ [] 0 0 := Stand.of_body Bd
  have e0 : s₁.heap = h0 := by rw [← hh, Bd.state]; rfl
  have N0 := Fr.nil n0
  change own_Go p e below (own_Post s (Q1_30 Z ra rb qq ka kb rd0 rd1 rd2 we0 we1 we2 rk0 rk1 rk2 wj0 wj1 wj2 h0 n0) ({ frames := 0, cells := 0, slots := 0, locals := 0 } : Room).cells ({ frames := 0, cells := 0, slots := 0, locals := 0 } : Room).slots) (s₁.setTop (entryFrame m #[(.ref ra), (.ref rb), (.int qq)] 6))
  refine own_by (fun t k => castTop (ef_1 m ra rb qq) k) ?_
  show own_Go p e below _ (s₁.setTop (mkF m 0 #[rv ra, rv rb, iv qq, oU, oU, oU] []))
  refine own_by (fun t k => XS.dconst0 X0.here hx rfl (hb hby d1_0) own_dz k) ?_
  show own_Go p e below _ (s₁.setTop (mkF m 1 #[rv ra, rv rb, iv qq, oU, oU, oU] [(.double (0 : UInt64))]))
  refine own_by (B := s₁.setTop (mkF m 27 #[rv ra, rv rb, iv qq, oD (0 : UInt64), oS, iv (1 : Int32)] [(.double rd1), (.double we1), (.double (0 : UInt64))])) (fun t k => ?_) ?_
  · show Steps p.tables e below (s₁.setTop (mkF m 1 #[rv ra, rv rb, iv qq, oU, oU, oU] [(.double (0 : UInt64))])) _
    refine XS.dstoreN X0.here hx rfl (hb hby d1_1) rfl (l' := #[rv ra, rv rb, iv qq, oD (0 : UInt64), oS, oU]) rfl ?_
    show Steps p.tables e below (s₁.setTop (mkF m 2 #[rv ra, rv rb, iv qq, oD (0 : UInt64), oS, oU] [])) _
    refine XS.iconst X0.here hx rfl (hb hby d1_2) ?_
    show Steps p.tables e below (s₁.setTop (mkF m 3 #[rv ra, rv rb, iv qq, oD (0 : UInt64), oS, oU] [(.int (0 : Int32))])) _
    refine XS.istore X0.here hx rfl (hb hby d1_3) rfl (l' := #[rv ra, rv rb, iv qq, oD (0 : UInt64), oS, iv (0 : Int32)]) rfl ?_
    show Steps p.tables e below (s₁.setTop (mkF m 5 #[rv ra, rv rb, iv qq, oD (0 : UInt64), oS, iv (0 : Int32)] [])) _
    refine XS.iload X0.here hx rfl (hb hby d1_5) rfl ?_
    show Steps p.tables e below (s₁.setTop (mkF m 7 #[rv ra, rv rb, iv qq, oD (0 : UInt64), oS, iv (0 : Int32)] [(.int (0 : Int32))])) _
    refine XS.aloadN X0.here hx rfl (hb hby d1_7) rfl rfl ?_
    show Steps p.tables e below (s₁.setTop (mkF m 8 #[rv ra, rv rb, iv qq, oD (0 : UInt64), oS, iv (0 : Int32)] [(.ref ra), (.int (0 : Int32))])) _
    obtain ⟨cl2, Ar2, -, S2, N2, -, -⟩ := id V_ra
    refine X0.arraylength hx (by rw [show s₁.heap = h0 from e0]; exact Ar2.1) (State.isArrayOf_alike hZ.alike Ar2.2.1) (g := (mkF m 8 #[rv ra, rv rb, iv qq, oD (0 : UInt64), oS, iv (0 : Int32)] [(.ref ra), (.int (0 : Int32))])) rfl rfl (hb hby d1_8) _ ?_
    rw [len_of S2 N2]
    show Steps p.tables e below (s₁.setTop (mkF m 9 #[rv ra, rv rb, iv qq, oD (0 : UInt64), oS, iv (0 : Int32)] [(.int (3 : Int32)), (.int (0 : Int32))])) _
    refine XS.icmpNo X0.here hx rfl (hb hby d1_9) rfl (tlt (by decide : (0 : Int32) < (3 : Int32))).2.1 ?_
    show Steps p.tables e below (s₁.setTop (mkF m 12 #[rv ra, rv rb, iv qq, oD (0 : UInt64), oS, iv (0 : Int32)] [])) _
    refine XS.iload X0.here hx rfl (hb hby d1_12) rfl ?_
    show Steps p.tables e below (s₁.setTop (mkF m 14 #[rv ra, rv rb, iv qq, oD (0 : UInt64), oS, iv (0 : Int32)] [(.int (0 : Int32))])) _
    refine XS.iloadN X0.here hx rfl (hb hby d1_14) rfl ?_
    show Steps p.tables e below (s₁.setTop (mkF m 15 #[rv ra, rv rb, iv qq, oD (0 : UInt64), oS, iv (0 : Int32)] [(.int qq), (.int (0 : Int32))])) _
    refine XS.icmpYes X0.here hx rfl (pc0 := 15) (pc' := 30) rfl (hb hby d1_15) rfl (teq hq0).1 (by decide) (by decide) ?_
    show Steps p.tables e below (s₁.setTop (mkF m 30 #[rv ra, rv rb, iv qq, oD (0 : UInt64), oS, iv (0 : Int32)] [])) _
    refine XS.iinc X0.here hx rfl (hb hby d1_30) rfl (l' := #[rv ra, rv rb, iv qq, oD (0 : UInt64), oS, iv (1 : Int32)]) rfl ?_
    show Steps p.tables e below (s₁.setTop (mkF m 33 #[rv ra, rv rb, iv qq, oD (0 : UInt64), oS, iv (1 : Int32)] [])) _
    refine XS.goto X0.here hx rfl (pc0 := 33) (pc' := 5) rfl (hb hby d1_33) (by decide) (by decide) ?_
    show Steps p.tables e below (s₁.setTop (mkF m 5 #[rv ra, rv rb, iv qq, oD (0 : UInt64), oS, iv (1 : Int32)] [])) _
    refine XS.iload X0.here hx rfl (hb hby d1_5) rfl ?_
    show Steps p.tables e below (s₁.setTop (mkF m 7 #[rv ra, rv rb, iv qq, oD (0 : UInt64), oS, iv (1 : Int32)] [(.int (1 : Int32))])) _
    refine XS.aloadN X0.here hx rfl (hb hby d1_7) rfl rfl ?_
    show Steps p.tables e below (s₁.setTop (mkF m 8 #[rv ra, rv rb, iv qq, oD (0 : UInt64), oS, iv (1 : Int32)] [(.ref ra), (.int (1 : Int32))])) _
    obtain ⟨cl3, Ar3, -, S3, N3, -, -⟩ := id V_ra
    refine X0.arraylength hx (by rw [show s₁.heap = h0 from e0]; exact Ar3.1) (State.isArrayOf_alike hZ.alike Ar3.2.1) (g := (mkF m 8 #[rv ra, rv rb, iv qq, oD (0 : UInt64), oS, iv (1 : Int32)] [(.ref ra), (.int (1 : Int32))])) rfl rfl (hb hby d1_8) _ ?_
    rw [len_of S3 N3]
    show Steps p.tables e below (s₁.setTop (mkF m 9 #[rv ra, rv rb, iv qq, oD (0 : UInt64), oS, iv (1 : Int32)] [(.int (3 : Int32)), (.int (1 : Int32))])) _
    refine XS.icmpNo X0.here hx rfl (hb hby d1_9) rfl (tlt (by decide : (1 : Int32) < (3 : Int32))).2.1 ?_
    show Steps p.tables e below (s₁.setTop (mkF m 12 #[rv ra, rv rb, iv qq, oD (0 : UInt64), oS, iv (1 : Int32)] [])) _
    refine XS.iload X0.here hx rfl (hb hby d1_12) rfl ?_
    show Steps p.tables e below (s₁.setTop (mkF m 14 #[rv ra, rv rb, iv qq, oD (0 : UInt64), oS, iv (1 : Int32)] [(.int (1 : Int32))])) _
    refine XS.iloadN X0.here hx rfl (hb hby d1_14) rfl ?_
    show Steps p.tables e below (s₁.setTop (mkF m 15 #[rv ra, rv rb, iv qq, oD (0 : UInt64), oS, iv (1 : Int32)] [(.int qq), (.int (1 : Int32))])) _
    refine XS.icmpNo X0.here hx rfl (hb hby d1_15) rfl (feq hq1).1 ?_
    show Steps p.tables e below (s₁.setTop (mkF m 18 #[rv ra, rv rb, iv qq, oD (0 : UInt64), oS, iv (1 : Int32)] [])) _
    refine XS.dloadN X0.here hx rfl (hb hby d1_18) rfl ?_
    show Steps p.tables e below (s₁.setTop (mkF m 19 #[rv ra, rv rb, iv qq, oD (0 : UInt64), oS, iv (1 : Int32)] [(.double (0 : UInt64))])) _
    refine XS.aloadN X0.here hx rfl (hb hby d1_19) rfl rfl ?_
    show Steps p.tables e below (s₁.setTop (mkF m 20 #[rv ra, rv rb, iv qq, oD (0 : UInt64), oS, iv (1 : Int32)] [(.ref rb), (.double (0 : UInt64))])) _
    refine XS.iload X0.here hx rfl (hb hby d1_20) rfl ?_
    show Steps p.tables e below (s₁.setTop (mkF m 22 #[rv ra, rv rb, iv qq, oD (0 : UInt64), oS, iv (1 : Int32)] [(.int (1 : Int32)), (.ref rb), (.double (0 : UInt64))])) _
    obtain ⟨cl4, Ar4, q4, S4, N4, H4, G4⟩ := id V_rb
    have hin4 : ¬ ((1 : Int32) < 0 ∨ cl4.slots.size ≤ ((1 : Int32)).toNatClampNeg) := inb_of S4 ⟨by decide, by decide⟩
    have hat4 : cl4.slots[((1 : Int32)).toNatClampNeg]? = some (.double we1) := H4.at hin4 rfl
    refine X0.daload hx (j := (1 : Int32)) (v := (.double we1)) (by rw [show s₁.heap = h0 from e0]; exact Ar4.1) (State.isArrayOf_alike hZ.alike Ar4.2.1) Ar4.2.2 hin4 hat4 (g := (mkF m 22 #[rv ra, rv rb, iv qq, oD (0 : UInt64), oS, iv (1 : Int32)] [(.int (1 : Int32)), (.ref rb), (.double (0 : UInt64))])) rfl rfl (hb hby d1_22) _ ?_
    show Steps p.tables e below (s₁.setTop (mkF m 23 #[rv ra, rv rb, iv qq, oD (0 : UInt64), oS, iv (1 : Int32)] [(.double we1), (.double (0 : UInt64))])) _
    refine XS.aloadN X0.here hx rfl (hb hby d1_23) rfl rfl ?_
    show Steps p.tables e below (s₁.setTop (mkF m 24 #[rv ra, rv rb, iv qq, oD (0 : UInt64), oS, iv (1 : Int32)] [(.ref ra), (.double we1), (.double (0 : UInt64))])) _
    refine XS.iload X0.here hx rfl (hb hby d1_24) rfl ?_
    show Steps p.tables e below (s₁.setTop (mkF m 26 #[rv ra, rv rb, iv qq, oD (0 : UInt64), oS, iv (1 : Int32)] [(.int (1 : Int32)), (.ref ra), (.double we1), (.double (0 : UInt64))])) _
    obtain ⟨cl5, Ar5, q5, S5, N5, H5, G5⟩ := id V_ra
    have hin5 : ¬ ((1 : Int32) < 0 ∨ cl5.slots.size ≤ ((1 : Int32)).toNatClampNeg) := inb_of S5 ⟨by decide, by decide⟩
    have hat5 : cl5.slots[((1 : Int32)).toNatClampNeg]? = some (.double rd1) := H5.at hin5 rfl
    refine X0.daload hx (j := (1 : Int32)) (v := (.double rd1)) (by rw [show s₁.heap = h0 from e0]; exact Ar5.1) (State.isArrayOf_alike hZ.alike Ar5.2.1) Ar5.2.2 hin5 hat5 (g := (mkF m 26 #[rv ra, rv rb, iv qq, oD (0 : UInt64), oS, iv (1 : Int32)] [(.int (1 : Int32)), (.ref ra), (.double we1), (.double (0 : UInt64))])) rfl rfl (hb hby d1_26) _ ?_
    show Steps p.tables e below (s₁.setTop (mkF m 27 #[rv ra, rv rb, iv qq, oD (0 : UInt64), oS, iv (1 : Int32)] [(.double rd1), (.double we1), (.double (0 : UInt64))])) _
    exact k
  have Y6 : own_Dy (wj1 * rk1) 33554432 (FP.dmul we1 rd1) := (own_dmul Ye1 Yd1 (by decide))
  refine own_by (fun t k => XS.dmulS X0.here hx rfl (hb hby d1_27) rfl (own_nnY Y6) rfl k) ?_
  generalize (FP.dmul we1 rd1) = d6 at Y6 ⊢
  show own_Go p e below _ (s₁.setTop (mkF m 28 #[rv ra, rv rb, iv qq, oD (0 : UInt64), oS, iv (1 : Int32)] [(.double d6), (.double (0 : UInt64))]))
  have Y7 : own_Dy (0 + (wj1 * rk1)) 33554432 (FP.dadd (0 : UInt64) d6) := (own_dadd own_d0 Y6 (by decide))
  refine own_by (fun t k => XS.daddS X0.here hx rfl (hb hby d1_28) rfl (own_nnY Y7) rfl k) ?_
  generalize (FP.dadd (0 : UInt64) d6) = d7 at Y7 ⊢
  show own_Go p e below _ (s₁.setTop (mkF m 29 #[rv ra, rv rb, iv qq, oD (0 : UInt64), oS, iv (1 : Int32)] [(.double d7)]))
  refine own_by (B := s₁.setTop (mkF m 27 #[rv ra, rv rb, iv qq, oD d7, oS, iv (2 : Int32)] [(.double rd2), (.double we2), (.double d7)])) (fun t k => ?_) ?_
  · show Steps p.tables e below (s₁.setTop (mkF m 29 #[rv ra, rv rb, iv qq, oD (0 : UInt64), oS, iv (1 : Int32)] [(.double d7)])) _
    refine XS.dstoreN X0.here hx rfl (hb hby d1_29) rfl (l' := #[rv ra, rv rb, iv qq, oD d7, oS, iv (1 : Int32)]) rfl ?_
    show Steps p.tables e below (s₁.setTop (mkF m 30 #[rv ra, rv rb, iv qq, oD d7, oS, iv (1 : Int32)] [])) _
    refine XS.iinc X0.here hx rfl (hb hby d1_30) rfl (l' := #[rv ra, rv rb, iv qq, oD d7, oS, iv (2 : Int32)]) rfl ?_
    show Steps p.tables e below (s₁.setTop (mkF m 33 #[rv ra, rv rb, iv qq, oD d7, oS, iv (2 : Int32)] [])) _
    refine XS.goto X0.here hx rfl (pc0 := 33) (pc' := 5) rfl (hb hby d1_33) (by decide) (by decide) ?_
    show Steps p.tables e below (s₁.setTop (mkF m 5 #[rv ra, rv rb, iv qq, oD d7, oS, iv (2 : Int32)] [])) _
    refine XS.iload X0.here hx rfl (hb hby d1_5) rfl ?_
    show Steps p.tables e below (s₁.setTop (mkF m 7 #[rv ra, rv rb, iv qq, oD d7, oS, iv (2 : Int32)] [(.int (2 : Int32))])) _
    refine XS.aloadN X0.here hx rfl (hb hby d1_7) rfl rfl ?_
    show Steps p.tables e below (s₁.setTop (mkF m 8 #[rv ra, rv rb, iv qq, oD d7, oS, iv (2 : Int32)] [(.ref ra), (.int (2 : Int32))])) _
    obtain ⟨cl8, Ar8, -, S8, N8, -, -⟩ := id V_ra
    refine X0.arraylength hx (by rw [show s₁.heap = h0 from e0]; exact Ar8.1) (State.isArrayOf_alike hZ.alike Ar8.2.1) (g := (mkF m 8 #[rv ra, rv rb, iv qq, oD d7, oS, iv (2 : Int32)] [(.ref ra), (.int (2 : Int32))])) rfl rfl (hb hby d1_8) _ ?_
    rw [len_of S8 N8]
    show Steps p.tables e below (s₁.setTop (mkF m 9 #[rv ra, rv rb, iv qq, oD d7, oS, iv (2 : Int32)] [(.int (3 : Int32)), (.int (2 : Int32))])) _
    refine XS.icmpNo X0.here hx rfl (hb hby d1_9) rfl (tlt (by decide : (2 : Int32) < (3 : Int32))).2.1 ?_
    show Steps p.tables e below (s₁.setTop (mkF m 12 #[rv ra, rv rb, iv qq, oD d7, oS, iv (2 : Int32)] [])) _
    refine XS.iload X0.here hx rfl (hb hby d1_12) rfl ?_
    show Steps p.tables e below (s₁.setTop (mkF m 14 #[rv ra, rv rb, iv qq, oD d7, oS, iv (2 : Int32)] [(.int (2 : Int32))])) _
    refine XS.iloadN X0.here hx rfl (hb hby d1_14) rfl ?_
    show Steps p.tables e below (s₁.setTop (mkF m 15 #[rv ra, rv rb, iv qq, oD d7, oS, iv (2 : Int32)] [(.int qq), (.int (2 : Int32))])) _
    refine XS.icmpNo X0.here hx rfl (hb hby d1_15) rfl (feq hq2).1 ?_
    show Steps p.tables e below (s₁.setTop (mkF m 18 #[rv ra, rv rb, iv qq, oD d7, oS, iv (2 : Int32)] [])) _
    refine XS.dloadN X0.here hx rfl (hb hby d1_18) rfl ?_
    show Steps p.tables e below (s₁.setTop (mkF m 19 #[rv ra, rv rb, iv qq, oD d7, oS, iv (2 : Int32)] [(.double d7)])) _
    refine XS.aloadN X0.here hx rfl (hb hby d1_19) rfl rfl ?_
    show Steps p.tables e below (s₁.setTop (mkF m 20 #[rv ra, rv rb, iv qq, oD d7, oS, iv (2 : Int32)] [(.ref rb), (.double d7)])) _
    refine XS.iload X0.here hx rfl (hb hby d1_20) rfl ?_
    show Steps p.tables e below (s₁.setTop (mkF m 22 #[rv ra, rv rb, iv qq, oD d7, oS, iv (2 : Int32)] [(.int (2 : Int32)), (.ref rb), (.double d7)])) _
    obtain ⟨cl9, Ar9, q9, S9, N9, H9, G9⟩ := id V_rb
    have hin9 : ¬ ((2 : Int32) < 0 ∨ cl9.slots.size ≤ ((2 : Int32)).toNatClampNeg) := inb_of S9 ⟨by decide, by decide⟩
    have hat9 : cl9.slots[((2 : Int32)).toNatClampNeg]? = some (.double we2) := H9.at hin9 rfl
    refine X0.daload hx (j := (2 : Int32)) (v := (.double we2)) (by rw [show s₁.heap = h0 from e0]; exact Ar9.1) (State.isArrayOf_alike hZ.alike Ar9.2.1) Ar9.2.2 hin9 hat9 (g := (mkF m 22 #[rv ra, rv rb, iv qq, oD d7, oS, iv (2 : Int32)] [(.int (2 : Int32)), (.ref rb), (.double d7)])) rfl rfl (hb hby d1_22) _ ?_
    show Steps p.tables e below (s₁.setTop (mkF m 23 #[rv ra, rv rb, iv qq, oD d7, oS, iv (2 : Int32)] [(.double we2), (.double d7)])) _
    refine XS.aloadN X0.here hx rfl (hb hby d1_23) rfl rfl ?_
    show Steps p.tables e below (s₁.setTop (mkF m 24 #[rv ra, rv rb, iv qq, oD d7, oS, iv (2 : Int32)] [(.ref ra), (.double we2), (.double d7)])) _
    refine XS.iload X0.here hx rfl (hb hby d1_24) rfl ?_
    show Steps p.tables e below (s₁.setTop (mkF m 26 #[rv ra, rv rb, iv qq, oD d7, oS, iv (2 : Int32)] [(.int (2 : Int32)), (.ref ra), (.double we2), (.double d7)])) _
    obtain ⟨cl10, Ar10, q10, S10, N10, H10, G10⟩ := id V_ra
    have hin10 : ¬ ((2 : Int32) < 0 ∨ cl10.slots.size ≤ ((2 : Int32)).toNatClampNeg) := inb_of S10 ⟨by decide, by decide⟩
    have hat10 : cl10.slots[((2 : Int32)).toNatClampNeg]? = some (.double rd2) := H10.at hin10 rfl
    refine X0.daload hx (j := (2 : Int32)) (v := (.double rd2)) (by rw [show s₁.heap = h0 from e0]; exact Ar10.1) (State.isArrayOf_alike hZ.alike Ar10.2.1) Ar10.2.2 hin10 hat10 (g := (mkF m 26 #[rv ra, rv rb, iv qq, oD d7, oS, iv (2 : Int32)] [(.int (2 : Int32)), (.ref ra), (.double we2), (.double d7)])) rfl rfl (hb hby d1_26) _ ?_
    show Steps p.tables e below (s₁.setTop (mkF m 27 #[rv ra, rv rb, iv qq, oD d7, oS, iv (2 : Int32)] [(.double rd2), (.double we2), (.double d7)])) _
    exact k
  have Y11 : own_Dy (wj2 * rk2) 33554432 (FP.dmul we2 rd2) := (own_dmul Ye2 Yd2 (by decide))
  refine own_by (fun t k => XS.dmulS X0.here hx rfl (hb hby d1_27) rfl (own_nnY Y11) rfl k) ?_
  generalize (FP.dmul we2 rd2) = d11 at Y11 ⊢
  show own_Go p e below _ (s₁.setTop (mkF m 28 #[rv ra, rv rb, iv qq, oD d7, oS, iv (2 : Int32)] [(.double d11), (.double d7)]))
  have Y12 : own_Dy ((0 + (wj1 * rk1)) + (wj2 * rk2)) 67108864 (FP.dadd d7 d11) := (own_dadd Y7 Y11 (by decide))
  refine own_by (fun t k => XS.daddS X0.here hx rfl (hb hby d1_28) rfl (own_nnY Y12) rfl k) ?_
  generalize (FP.dadd d7 d11) = d12 at Y12 ⊢
  show own_Go p e below _ (s₁.setTop (mkF m 29 #[rv ra, rv rb, iv qq, oD d7, oS, iv (2 : Int32)] [(.double d12)]))
  refine own_by (B := s₁.setTop (mkF m 37 #[rv ra, rv rb, iv qq, oD d12, oS, iv (3 : Int32)] [(.double d12)])) (fun t k => ?_) ?_
  · show Steps p.tables e below (s₁.setTop (mkF m 29 #[rv ra, rv rb, iv qq, oD d7, oS, iv (2 : Int32)] [(.double d12)])) _
    refine XS.dstoreN X0.here hx rfl (hb hby d1_29) rfl (l' := #[rv ra, rv rb, iv qq, oD d12, oS, iv (2 : Int32)]) rfl ?_
    show Steps p.tables e below (s₁.setTop (mkF m 30 #[rv ra, rv rb, iv qq, oD d12, oS, iv (2 : Int32)] [])) _
    refine XS.iinc X0.here hx rfl (hb hby d1_30) rfl (l' := #[rv ra, rv rb, iv qq, oD d12, oS, iv (3 : Int32)]) rfl ?_
    show Steps p.tables e below (s₁.setTop (mkF m 33 #[rv ra, rv rb, iv qq, oD d12, oS, iv (3 : Int32)] [])) _
    refine XS.goto X0.here hx rfl (pc0 := 33) (pc' := 5) rfl (hb hby d1_33) (by decide) (by decide) ?_
    show Steps p.tables e below (s₁.setTop (mkF m 5 #[rv ra, rv rb, iv qq, oD d12, oS, iv (3 : Int32)] [])) _
    refine XS.iload X0.here hx rfl (hb hby d1_5) rfl ?_
    show Steps p.tables e below (s₁.setTop (mkF m 7 #[rv ra, rv rb, iv qq, oD d12, oS, iv (3 : Int32)] [(.int (3 : Int32))])) _
    refine XS.aloadN X0.here hx rfl (hb hby d1_7) rfl rfl ?_
    show Steps p.tables e below (s₁.setTop (mkF m 8 #[rv ra, rv rb, iv qq, oD d12, oS, iv (3 : Int32)] [(.ref ra), (.int (3 : Int32))])) _
    obtain ⟨cl13, Ar13, -, S13, N13, -, -⟩ := id V_ra
    refine X0.arraylength hx (by rw [show s₁.heap = h0 from e0]; exact Ar13.1) (State.isArrayOf_alike hZ.alike Ar13.2.1) (g := (mkF m 8 #[rv ra, rv rb, iv qq, oD d12, oS, iv (3 : Int32)] [(.ref ra), (.int (3 : Int32))])) rfl rfl (hb hby d1_8) _ ?_
    rw [len_of S13 N13]
    show Steps p.tables e below (s₁.setTop (mkF m 9 #[rv ra, rv rb, iv qq, oD d12, oS, iv (3 : Int32)] [(.int (3 : Int32)), (.int (3 : Int32))])) _
    refine XS.icmpYes X0.here hx rfl (pc0 := 9) (pc' := 36) rfl (hb hby d1_9) rfl (flt (by decide : ¬ ((3 : Int32) < (3 : Int32)))).2.1 (by decide) (by decide) ?_
    show Steps p.tables e below (s₁.setTop (mkF m 36 #[rv ra, rv rb, iv qq, oD d12, oS, iv (3 : Int32)] [])) _
    refine XS.dloadN X0.here hx rfl (hb hby d1_36) rfl ?_
    show Steps p.tables e below (s₁.setTop (mkF m 37 #[rv ra, rv rb, iv qq, oD d12, oS, iv (3 : Int32)] [(.double d12)])) _
    exact k
  exact own_retD X0 Bd.notSynchronized hx Bd.returns (hb hby d1_37) (by
      try rw [show s₁.heap = h0 from e0]
      exact ⟨d12, rfl, N0, rfl, Y12⟩) (by decide) (by decide)

def Q1_31 (Z : State) (ra : Addr) (rb : Addr) (qq : Int32) (ka : ClassId) (kb : ClassId) (rd0 : UInt64) (rd1 : UInt64) (rd2 : UInt64) (we0 : UInt64) (we1 : UInt64) (we2 : UInt64) (rk0 : Int) (rk1 : Int) (rk2 : Int) (wj0 : Int) (wj1 : Int) (wj2 : Int) (h0 : Heap) (n0 : Nat) (v : Option Value) (h : Heap) (L : List Loc) : Prop := ∃ x : UInt64, v = some (.double x) ∧ Fr n0 L ∧ h = h0 ∧ own_Dy ((0 + (wj0 * rk0)) + (wj2 * rk2)) 67108864 x
set_option maxRecDepth 65536 in
set_option maxHeartbeats 40000000 in
theorem rm1_31 (l : Launch) (Z : State) (a0 : Array Value) (hw : ∀ d ∈ tables_1, d.before a0 Z = true) (ws : List Jvm.Cond) (ra : Addr) (rb : Addr) (qq : Int32) (ka : ClassId) (kb : ClassId) (rd0 : UInt64) (rd1 : UInt64) (rd2 : UInt64) (we0 : UInt64) (we1 : UInt64) (we2 : UInt64) (rk0 : Int) (rk1 : Int) (rk2 : Int) (wj0 : Int) (wj1 : Int) (wj2 : Int) (h0 : Heap) (n0 : Nat) (Z0 : n0 ≤ h0.size) (V_ra : Arv Z h0 ra ka .double (3 : Int32) [(.double rd0), (.double rd1), (.double rd2)] (.double (0 : UInt64))) (V_rb : Arv Z h0 rb kb .double (3 : Int32) [(.double we0), (.double we1), (.double we2)] (.double (0 : UInt64))) (Yd0 : own_Dy rk0 1024 rd0) (Ye0 : own_Di wj0 32768 we0) (Yd1 : own_Dy rk1 1024 rd1) (Ye1 : own_Di wj1 32768 we1) (Yd2 : own_Dy rk2 1024 rd2) (Ye2 : own_Di wj2 32768 we2) (hq0 : ¬ ((0 : Int32) = qq)) (hq1 : (1 : Int32) = qq) (hq2 : ¬ ((2 : Int32) = qq)) :
    MetFree l (⟨"com/example/rivulet/rivulet/flow/Flow", "expected", "([D[DI)D"⟩ : MethodName) (head1 (Jvm.Cond.code (⟨"com/example/rivulet/rivulet/flow/Flow", "expected", "([D[DI)D"⟩ : MethodName) prog_17_method_4_code 6 (some .double) :: ws) ({ frames := 0, cells := 0, slots := 0, locals := 0 } : Room)) (fun a U => a = #[(.ref ra), (.ref rb), (.int qq)] ∧ Z.Warmed39 U.vm ∧ U.heap = h0) (fun _ _ _ _ _ => True) (fun _ U o U' => ∃ v L, o = .returned v ∧ Q1_31 Z ra rb qq ka kb rd0 rd1 rd2 we0 we1 we2 rk0 rk1 rk2 wj0 wj1 wj2 h0 n0 v U'.heap L ∧ FrameEnd U o U' L ({ frames := 0, cells := 0, slots := 0, locals := 0 } : Room).cells ({ frames := 0, cells := 0, slots := 0, locals := 0 } : Room).slots) := by
  refine MetFree.of_bodySF (plainFor_of_name pn_1) hisR ?_
  intro p e s m args below meth c s₁ Bd hml0 hP hK
  obtain ⟨rfl, hZ, hh⟩ := hP
  have hx := Bd.exec
  have hby := Bd.bytes
  have hml : c.maxLocals = 6 := hml0
  have hown : s.vm.findClass "com/example/rivulet/rivulet/flow/Flow" = some m.cls := findClass_of_methodNamed Bd.named
  have hnm := (name_of_methodNamed Bd.named Bd.method).1
  have X0 : Stand p l e ({ frames := 0, cells := 0, slots := 0, locals := 0 } : Room) s m #[(.ref ra), (.ref rb), (.int qq)] below meth c s₁ [] 0 0 := Stand.of_body Bd
  have e0 : s₁.heap = h0 := by rw [← hh, Bd.state]; rfl
  have N0 := Fr.nil n0
  change own_Go p e below (own_Post s (Q1_31 Z ra rb qq ka kb rd0 rd1 rd2 we0 we1 we2 rk0 rk1 rk2 wj0 wj1 wj2 h0 n0) ({ frames := 0, cells := 0, slots := 0, locals := 0 } : Room).cells ({ frames := 0, cells := 0, slots := 0, locals := 0 } : Room).slots) (s₁.setTop (entryFrame m #[(.ref ra), (.ref rb), (.int qq)] 6))
  refine own_by (fun t k => castTop (ef_1 m ra rb qq) k) ?_
  show own_Go p e below _ (s₁.setTop (mkF m 0 #[rv ra, rv rb, iv qq, oU, oU, oU] []))
  refine own_by (fun t k => XS.dconst0 X0.here hx rfl (hb hby d1_0) own_dz k) ?_
  show own_Go p e below _ (s₁.setTop (mkF m 1 #[rv ra, rv rb, iv qq, oU, oU, oU] [(.double (0 : UInt64))]))
  refine own_by (B := s₁.setTop (mkF m 27 #[rv ra, rv rb, iv qq, oD (0 : UInt64), oS, iv (0 : Int32)] [(.double rd0), (.double we0), (.double (0 : UInt64))])) (fun t k => ?_) ?_
  · show Steps p.tables e below (s₁.setTop (mkF m 1 #[rv ra, rv rb, iv qq, oU, oU, oU] [(.double (0 : UInt64))])) _
    refine XS.dstoreN X0.here hx rfl (hb hby d1_1) rfl (l' := #[rv ra, rv rb, iv qq, oD (0 : UInt64), oS, oU]) rfl ?_
    show Steps p.tables e below (s₁.setTop (mkF m 2 #[rv ra, rv rb, iv qq, oD (0 : UInt64), oS, oU] [])) _
    refine XS.iconst X0.here hx rfl (hb hby d1_2) ?_
    show Steps p.tables e below (s₁.setTop (mkF m 3 #[rv ra, rv rb, iv qq, oD (0 : UInt64), oS, oU] [(.int (0 : Int32))])) _
    refine XS.istore X0.here hx rfl (hb hby d1_3) rfl (l' := #[rv ra, rv rb, iv qq, oD (0 : UInt64), oS, iv (0 : Int32)]) rfl ?_
    show Steps p.tables e below (s₁.setTop (mkF m 5 #[rv ra, rv rb, iv qq, oD (0 : UInt64), oS, iv (0 : Int32)] [])) _
    refine XS.iload X0.here hx rfl (hb hby d1_5) rfl ?_
    show Steps p.tables e below (s₁.setTop (mkF m 7 #[rv ra, rv rb, iv qq, oD (0 : UInt64), oS, iv (0 : Int32)] [(.int (0 : Int32))])) _
    refine XS.aloadN X0.here hx rfl (hb hby d1_7) rfl rfl ?_
    show Steps p.tables e below (s₁.setTop (mkF m 8 #[rv ra, rv rb, iv qq, oD (0 : UInt64), oS, iv (0 : Int32)] [(.ref ra), (.int (0 : Int32))])) _
    obtain ⟨cl2, Ar2, -, S2, N2, -, -⟩ := id V_ra
    refine X0.arraylength hx (by rw [show s₁.heap = h0 from e0]; exact Ar2.1) (State.isArrayOf_alike hZ.alike Ar2.2.1) (g := (mkF m 8 #[rv ra, rv rb, iv qq, oD (0 : UInt64), oS, iv (0 : Int32)] [(.ref ra), (.int (0 : Int32))])) rfl rfl (hb hby d1_8) _ ?_
    rw [len_of S2 N2]
    show Steps p.tables e below (s₁.setTop (mkF m 9 #[rv ra, rv rb, iv qq, oD (0 : UInt64), oS, iv (0 : Int32)] [(.int (3 : Int32)), (.int (0 : Int32))])) _
    refine XS.icmpNo X0.here hx rfl (hb hby d1_9) rfl (tlt (by decide : (0 : Int32) < (3 : Int32))).2.1 ?_
    show Steps p.tables e below (s₁.setTop (mkF m 12 #[rv ra, rv rb, iv qq, oD (0 : UInt64), oS, iv (0 : Int32)] [])) _
    refine XS.iload X0.here hx rfl (hb hby d1_12) rfl ?_
    show Steps p.tables e below (s₁.setTop (mkF m 14 #[rv ra, rv rb, iv qq, oD (0 : UInt64), oS, iv (0 : Int32)] [(.int (0 : Int32))])) _
    refine XS.iloadN X0.here hx rfl (hb hby d1_14) rfl ?_
    show Steps p.tables e below (s₁.setTop (mkF m 15 #[rv ra, rv rb, iv qq, oD (0 : UInt64), oS, iv (0 : Int32)] [(.int qq), (.int (0 : Int32))])) _
    refine XS.icmpNo X0.here hx rfl (hb hby d1_15) rfl (feq hq0).1 ?_
    show Steps p.tables e below (s₁.setTop (mkF m 18 #[rv ra, rv rb, iv qq, oD (0 : UInt64), oS, iv (0 : Int32)] [])) _
    refine XS.dloadN X0.here hx rfl (hb hby d1_18) rfl ?_
    show Steps p.tables e below (s₁.setTop (mkF m 19 #[rv ra, rv rb, iv qq, oD (0 : UInt64), oS, iv (0 : Int32)] [(.double (0 : UInt64))])) _
    refine XS.aloadN X0.here hx rfl (hb hby d1_19) rfl rfl ?_
    show Steps p.tables e below (s₁.setTop (mkF m 20 #[rv ra, rv rb, iv qq, oD (0 : UInt64), oS, iv (0 : Int32)] [(.ref rb), (.double (0 : UInt64))])) _
    refine XS.iload X0.here hx rfl (hb hby d1_20) rfl ?_
    show Steps p.tables e below (s₁.setTop (mkF m 22 #[rv ra, rv rb, iv qq, oD (0 : UInt64), oS, iv (0 : Int32)] [(.int (0 : Int32)), (.ref rb), (.double (0 : UInt64))])) _
    obtain ⟨cl3, Ar3, q3, S3, N3, H3, G3⟩ := id V_rb
    have hin3 : ¬ ((0 : Int32) < 0 ∨ cl3.slots.size ≤ ((0 : Int32)).toNatClampNeg) := inb_of S3 ⟨by decide, by decide⟩
    have hat3 : cl3.slots[((0 : Int32)).toNatClampNeg]? = some (.double we0) := H3.at hin3 rfl
    refine X0.daload hx (j := (0 : Int32)) (v := (.double we0)) (by rw [show s₁.heap = h0 from e0]; exact Ar3.1) (State.isArrayOf_alike hZ.alike Ar3.2.1) Ar3.2.2 hin3 hat3 (g := (mkF m 22 #[rv ra, rv rb, iv qq, oD (0 : UInt64), oS, iv (0 : Int32)] [(.int (0 : Int32)), (.ref rb), (.double (0 : UInt64))])) rfl rfl (hb hby d1_22) _ ?_
    show Steps p.tables e below (s₁.setTop (mkF m 23 #[rv ra, rv rb, iv qq, oD (0 : UInt64), oS, iv (0 : Int32)] [(.double we0), (.double (0 : UInt64))])) _
    refine XS.aloadN X0.here hx rfl (hb hby d1_23) rfl rfl ?_
    show Steps p.tables e below (s₁.setTop (mkF m 24 #[rv ra, rv rb, iv qq, oD (0 : UInt64), oS, iv (0 : Int32)] [(.ref ra), (.double we0), (.double (0 : UInt64))])) _
    refine XS.iload X0.here hx rfl (hb hby d1_24) rfl ?_
    show Steps p.tables e below (s₁.setTop (mkF m 26 #[rv ra, rv rb, iv qq, oD (0 : UInt64), oS, iv (0 : Int32)] [(.int (0 : Int32)), (.ref ra), (.double we0), (.double (0 : UInt64))])) _
    obtain ⟨cl4, Ar4, q4, S4, N4, H4, G4⟩ := id V_ra
    have hin4 : ¬ ((0 : Int32) < 0 ∨ cl4.slots.size ≤ ((0 : Int32)).toNatClampNeg) := inb_of S4 ⟨by decide, by decide⟩
    have hat4 : cl4.slots[((0 : Int32)).toNatClampNeg]? = some (.double rd0) := H4.at hin4 rfl
    refine X0.daload hx (j := (0 : Int32)) (v := (.double rd0)) (by rw [show s₁.heap = h0 from e0]; exact Ar4.1) (State.isArrayOf_alike hZ.alike Ar4.2.1) Ar4.2.2 hin4 hat4 (g := (mkF m 26 #[rv ra, rv rb, iv qq, oD (0 : UInt64), oS, iv (0 : Int32)] [(.int (0 : Int32)), (.ref ra), (.double we0), (.double (0 : UInt64))])) rfl rfl (hb hby d1_26) _ ?_
    show Steps p.tables e below (s₁.setTop (mkF m 27 #[rv ra, rv rb, iv qq, oD (0 : UInt64), oS, iv (0 : Int32)] [(.double rd0), (.double we0), (.double (0 : UInt64))])) _
    exact k
  have Y5 : own_Dy (wj0 * rk0) 33554432 (FP.dmul we0 rd0) := (own_dmul Ye0 Yd0 (by decide))
  refine own_by (fun t k => XS.dmulS X0.here hx rfl (hb hby d1_27) rfl (own_nnY Y5) rfl k) ?_
  generalize (FP.dmul we0 rd0) = d5 at Y5 ⊢
  show own_Go p e below _ (s₁.setTop (mkF m 28 #[rv ra, rv rb, iv qq, oD (0 : UInt64), oS, iv (0 : Int32)] [(.double d5), (.double (0 : UInt64))]))
  have Y6 : own_Dy (0 + (wj0 * rk0)) 33554432 (FP.dadd (0 : UInt64) d5) := (own_dadd own_d0 Y5 (by decide))
  refine own_by (fun t k => XS.daddS X0.here hx rfl (hb hby d1_28) rfl (own_nnY Y6) rfl k) ?_
  generalize (FP.dadd (0 : UInt64) d5) = d6 at Y6 ⊢
  show own_Go p e below _ (s₁.setTop (mkF m 29 #[rv ra, rv rb, iv qq, oD (0 : UInt64), oS, iv (0 : Int32)] [(.double d6)]))
  refine own_by (B := s₁.setTop (mkF m 27 #[rv ra, rv rb, iv qq, oD d6, oS, iv (2 : Int32)] [(.double rd2), (.double we2), (.double d6)])) (fun t k => ?_) ?_
  · show Steps p.tables e below (s₁.setTop (mkF m 29 #[rv ra, rv rb, iv qq, oD (0 : UInt64), oS, iv (0 : Int32)] [(.double d6)])) _
    refine XS.dstoreN X0.here hx rfl (hb hby d1_29) rfl (l' := #[rv ra, rv rb, iv qq, oD d6, oS, iv (0 : Int32)]) rfl ?_
    show Steps p.tables e below (s₁.setTop (mkF m 30 #[rv ra, rv rb, iv qq, oD d6, oS, iv (0 : Int32)] [])) _
    refine XS.iinc X0.here hx rfl (hb hby d1_30) rfl (l' := #[rv ra, rv rb, iv qq, oD d6, oS, iv (1 : Int32)]) rfl ?_
    show Steps p.tables e below (s₁.setTop (mkF m 33 #[rv ra, rv rb, iv qq, oD d6, oS, iv (1 : Int32)] [])) _
    refine XS.goto X0.here hx rfl (pc0 := 33) (pc' := 5) rfl (hb hby d1_33) (by decide) (by decide) ?_
    show Steps p.tables e below (s₁.setTop (mkF m 5 #[rv ra, rv rb, iv qq, oD d6, oS, iv (1 : Int32)] [])) _
    refine XS.iload X0.here hx rfl (hb hby d1_5) rfl ?_
    show Steps p.tables e below (s₁.setTop (mkF m 7 #[rv ra, rv rb, iv qq, oD d6, oS, iv (1 : Int32)] [(.int (1 : Int32))])) _
    refine XS.aloadN X0.here hx rfl (hb hby d1_7) rfl rfl ?_
    show Steps p.tables e below (s₁.setTop (mkF m 8 #[rv ra, rv rb, iv qq, oD d6, oS, iv (1 : Int32)] [(.ref ra), (.int (1 : Int32))])) _
    obtain ⟨cl7, Ar7, -, S7, N7, -, -⟩ := id V_ra
    refine X0.arraylength hx (by rw [show s₁.heap = h0 from e0]; exact Ar7.1) (State.isArrayOf_alike hZ.alike Ar7.2.1) (g := (mkF m 8 #[rv ra, rv rb, iv qq, oD d6, oS, iv (1 : Int32)] [(.ref ra), (.int (1 : Int32))])) rfl rfl (hb hby d1_8) _ ?_
    rw [len_of S7 N7]
    show Steps p.tables e below (s₁.setTop (mkF m 9 #[rv ra, rv rb, iv qq, oD d6, oS, iv (1 : Int32)] [(.int (3 : Int32)), (.int (1 : Int32))])) _
    refine XS.icmpNo X0.here hx rfl (hb hby d1_9) rfl (tlt (by decide : (1 : Int32) < (3 : Int32))).2.1 ?_
    show Steps p.tables e below (s₁.setTop (mkF m 12 #[rv ra, rv rb, iv qq, oD d6, oS, iv (1 : Int32)] [])) _
    refine XS.iload X0.here hx rfl (hb hby d1_12) rfl ?_
    show Steps p.tables e below (s₁.setTop (mkF m 14 #[rv ra, rv rb, iv qq, oD d6, oS, iv (1 : Int32)] [(.int (1 : Int32))])) _
    refine XS.iloadN X0.here hx rfl (hb hby d1_14) rfl ?_
    show Steps p.tables e below (s₁.setTop (mkF m 15 #[rv ra, rv rb, iv qq, oD d6, oS, iv (1 : Int32)] [(.int qq), (.int (1 : Int32))])) _
    refine XS.icmpYes X0.here hx rfl (pc0 := 15) (pc' := 30) rfl (hb hby d1_15) rfl (teq hq1).1 (by decide) (by decide) ?_
    show Steps p.tables e below (s₁.setTop (mkF m 30 #[rv ra, rv rb, iv qq, oD d6, oS, iv (1 : Int32)] [])) _
    refine XS.iinc X0.here hx rfl (hb hby d1_30) rfl (l' := #[rv ra, rv rb, iv qq, oD d6, oS, iv (2 : Int32)]) rfl ?_
    show Steps p.tables e below (s₁.setTop (mkF m 33 #[rv ra, rv rb, iv qq, oD d6, oS, iv (2 : Int32)] [])) _
    refine XS.goto X0.here hx rfl (pc0 := 33) (pc' := 5) rfl (hb hby d1_33) (by decide) (by decide) ?_
    show Steps p.tables e below (s₁.setTop (mkF m 5 #[rv ra, rv rb, iv qq, oD d6, oS, iv (2 : Int32)] [])) _
    refine XS.iload X0.here hx rfl (hb hby d1_5) rfl ?_
    show Steps p.tables e below (s₁.setTop (mkF m 7 #[rv ra, rv rb, iv qq, oD d6, oS, iv (2 : Int32)] [(.int (2 : Int32))])) _
    refine XS.aloadN X0.here hx rfl (hb hby d1_7) rfl rfl ?_
    show Steps p.tables e below (s₁.setTop (mkF m 8 #[rv ra, rv rb, iv qq, oD d6, oS, iv (2 : Int32)] [(.ref ra), (.int (2 : Int32))])) _
    obtain ⟨cl8, Ar8, -, S8, N8, -, -⟩ := id V_ra
    refine X0.arraylength hx (by rw [show s₁.heap = h0 from e0]; exact Ar8.1) (State.isArrayOf_alike hZ.alike Ar8.2.1) (g := (mkF m 8 #[rv ra, rv rb, iv qq, oD d6, oS, iv (2 : Int32)] [(.ref ra), (.int (2 : Int32))])) rfl rfl (hb hby d1_8) _ ?_
    rw [len_of S8 N8]
    show Steps p.tables e below (s₁.setTop (mkF m 9 #[rv ra, rv rb, iv qq, oD d6, oS, iv (2 : Int32)] [(.int (3 : Int32)), (.int (2 : Int32))])) _
    refine XS.icmpNo X0.here hx rfl (hb hby d1_9) rfl (tlt (by decide : (2 : Int32) < (3 : Int32))).2.1 ?_
    show Steps p.tables e below (s₁.setTop (mkF m 12 #[rv ra, rv rb, iv qq, oD d6, oS, iv (2 : Int32)] [])) _
    refine XS.iload X0.here hx rfl (hb hby d1_12) rfl ?_
    show Steps p.tables e below (s₁.setTop (mkF m 14 #[rv ra, rv rb, iv qq, oD d6, oS, iv (2 : Int32)] [(.int (2 : Int32))])) _
    refine XS.iloadN X0.here hx rfl (hb hby d1_14) rfl ?_
    show Steps p.tables e below (s₁.setTop (mkF m 15 #[rv ra, rv rb, iv qq, oD d6, oS, iv (2 : Int32)] [(.int qq), (.int (2 : Int32))])) _
    refine XS.icmpNo X0.here hx rfl (hb hby d1_15) rfl (feq hq2).1 ?_
    show Steps p.tables e below (s₁.setTop (mkF m 18 #[rv ra, rv rb, iv qq, oD d6, oS, iv (2 : Int32)] [])) _
    refine XS.dloadN X0.here hx rfl (hb hby d1_18) rfl ?_
    show Steps p.tables e below (s₁.setTop (mkF m 19 #[rv ra, rv rb, iv qq, oD d6, oS, iv (2 : Int32)] [(.double d6)])) _
    refine XS.aloadN X0.here hx rfl (hb hby d1_19) rfl rfl ?_
    show Steps p.tables e below (s₁.setTop (mkF m 20 #[rv ra, rv rb, iv qq, oD d6, oS, iv (2 : Int32)] [(.ref rb), (.double d6)])) _
    refine XS.iload X0.here hx rfl (hb hby d1_20) rfl ?_
    show Steps p.tables e below (s₁.setTop (mkF m 22 #[rv ra, rv rb, iv qq, oD d6, oS, iv (2 : Int32)] [(.int (2 : Int32)), (.ref rb), (.double d6)])) _
    obtain ⟨cl9, Ar9, q9, S9, N9, H9, G9⟩ := id V_rb
    have hin9 : ¬ ((2 : Int32) < 0 ∨ cl9.slots.size ≤ ((2 : Int32)).toNatClampNeg) := inb_of S9 ⟨by decide, by decide⟩
    have hat9 : cl9.slots[((2 : Int32)).toNatClampNeg]? = some (.double we2) := H9.at hin9 rfl
    refine X0.daload hx (j := (2 : Int32)) (v := (.double we2)) (by rw [show s₁.heap = h0 from e0]; exact Ar9.1) (State.isArrayOf_alike hZ.alike Ar9.2.1) Ar9.2.2 hin9 hat9 (g := (mkF m 22 #[rv ra, rv rb, iv qq, oD d6, oS, iv (2 : Int32)] [(.int (2 : Int32)), (.ref rb), (.double d6)])) rfl rfl (hb hby d1_22) _ ?_
    show Steps p.tables e below (s₁.setTop (mkF m 23 #[rv ra, rv rb, iv qq, oD d6, oS, iv (2 : Int32)] [(.double we2), (.double d6)])) _
    refine XS.aloadN X0.here hx rfl (hb hby d1_23) rfl rfl ?_
    show Steps p.tables e below (s₁.setTop (mkF m 24 #[rv ra, rv rb, iv qq, oD d6, oS, iv (2 : Int32)] [(.ref ra), (.double we2), (.double d6)])) _
    refine XS.iload X0.here hx rfl (hb hby d1_24) rfl ?_
    show Steps p.tables e below (s₁.setTop (mkF m 26 #[rv ra, rv rb, iv qq, oD d6, oS, iv (2 : Int32)] [(.int (2 : Int32)), (.ref ra), (.double we2), (.double d6)])) _
    obtain ⟨cl10, Ar10, q10, S10, N10, H10, G10⟩ := id V_ra
    have hin10 : ¬ ((2 : Int32) < 0 ∨ cl10.slots.size ≤ ((2 : Int32)).toNatClampNeg) := inb_of S10 ⟨by decide, by decide⟩
    have hat10 : cl10.slots[((2 : Int32)).toNatClampNeg]? = some (.double rd2) := H10.at hin10 rfl
    refine X0.daload hx (j := (2 : Int32)) (v := (.double rd2)) (by rw [show s₁.heap = h0 from e0]; exact Ar10.1) (State.isArrayOf_alike hZ.alike Ar10.2.1) Ar10.2.2 hin10 hat10 (g := (mkF m 26 #[rv ra, rv rb, iv qq, oD d6, oS, iv (2 : Int32)] [(.int (2 : Int32)), (.ref ra), (.double we2), (.double d6)])) rfl rfl (hb hby d1_26) _ ?_
    show Steps p.tables e below (s₁.setTop (mkF m 27 #[rv ra, rv rb, iv qq, oD d6, oS, iv (2 : Int32)] [(.double rd2), (.double we2), (.double d6)])) _
    exact k
  have Y11 : own_Dy (wj2 * rk2) 33554432 (FP.dmul we2 rd2) := (own_dmul Ye2 Yd2 (by decide))
  refine own_by (fun t k => XS.dmulS X0.here hx rfl (hb hby d1_27) rfl (own_nnY Y11) rfl k) ?_
  generalize (FP.dmul we2 rd2) = d11 at Y11 ⊢
  show own_Go p e below _ (s₁.setTop (mkF m 28 #[rv ra, rv rb, iv qq, oD d6, oS, iv (2 : Int32)] [(.double d11), (.double d6)]))
  have Y12 : own_Dy ((0 + (wj0 * rk0)) + (wj2 * rk2)) 67108864 (FP.dadd d6 d11) := (own_dadd Y6 Y11 (by decide))
  refine own_by (fun t k => XS.daddS X0.here hx rfl (hb hby d1_28) rfl (own_nnY Y12) rfl k) ?_
  generalize (FP.dadd d6 d11) = d12 at Y12 ⊢
  show own_Go p e below _ (s₁.setTop (mkF m 29 #[rv ra, rv rb, iv qq, oD d6, oS, iv (2 : Int32)] [(.double d12)]))
  refine own_by (B := s₁.setTop (mkF m 37 #[rv ra, rv rb, iv qq, oD d12, oS, iv (3 : Int32)] [(.double d12)])) (fun t k => ?_) ?_
  · show Steps p.tables e below (s₁.setTop (mkF m 29 #[rv ra, rv rb, iv qq, oD d6, oS, iv (2 : Int32)] [(.double d12)])) _
    refine XS.dstoreN X0.here hx rfl (hb hby d1_29) rfl (l' := #[rv ra, rv rb, iv qq, oD d12, oS, iv (2 : Int32)]) rfl ?_
    show Steps p.tables e below (s₁.setTop (mkF m 30 #[rv ra, rv rb, iv qq, oD d12, oS, iv (2 : Int32)] [])) _
    refine XS.iinc X0.here hx rfl (hb hby d1_30) rfl (l' := #[rv ra, rv rb, iv qq, oD d12, oS, iv (3 : Int32)]) rfl ?_
    show Steps p.tables e below (s₁.setTop (mkF m 33 #[rv ra, rv rb, iv qq, oD d12, oS, iv (3 : Int32)] [])) _
    refine XS.goto X0.here hx rfl (pc0 := 33) (pc' := 5) rfl (hb hby d1_33) (by decide) (by decide) ?_
    show Steps p.tables e below (s₁.setTop (mkF m 5 #[rv ra, rv rb, iv qq, oD d12, oS, iv (3 : Int32)] [])) _
    refine XS.iload X0.here hx rfl (hb hby d1_5) rfl ?_
    show Steps p.tables e below (s₁.setTop (mkF m 7 #[rv ra, rv rb, iv qq, oD d12, oS, iv (3 : Int32)] [(.int (3 : Int32))])) _
    refine XS.aloadN X0.here hx rfl (hb hby d1_7) rfl rfl ?_
    show Steps p.tables e below (s₁.setTop (mkF m 8 #[rv ra, rv rb, iv qq, oD d12, oS, iv (3 : Int32)] [(.ref ra), (.int (3 : Int32))])) _
    obtain ⟨cl13, Ar13, -, S13, N13, -, -⟩ := id V_ra
    refine X0.arraylength hx (by rw [show s₁.heap = h0 from e0]; exact Ar13.1) (State.isArrayOf_alike hZ.alike Ar13.2.1) (g := (mkF m 8 #[rv ra, rv rb, iv qq, oD d12, oS, iv (3 : Int32)] [(.ref ra), (.int (3 : Int32))])) rfl rfl (hb hby d1_8) _ ?_
    rw [len_of S13 N13]
    show Steps p.tables e below (s₁.setTop (mkF m 9 #[rv ra, rv rb, iv qq, oD d12, oS, iv (3 : Int32)] [(.int (3 : Int32)), (.int (3 : Int32))])) _
    refine XS.icmpYes X0.here hx rfl (pc0 := 9) (pc' := 36) rfl (hb hby d1_9) rfl (flt (by decide : ¬ ((3 : Int32) < (3 : Int32)))).2.1 (by decide) (by decide) ?_
    show Steps p.tables e below (s₁.setTop (mkF m 36 #[rv ra, rv rb, iv qq, oD d12, oS, iv (3 : Int32)] [])) _
    refine XS.dloadN X0.here hx rfl (hb hby d1_36) rfl ?_
    show Steps p.tables e below (s₁.setTop (mkF m 37 #[rv ra, rv rb, iv qq, oD d12, oS, iv (3 : Int32)] [(.double d12)])) _
    exact k
  exact own_retD X0 Bd.notSynchronized hx Bd.returns (hb hby d1_37) (by
      try rw [show s₁.heap = h0 from e0]
      exact ⟨d12, rfl, N0, rfl, Y12⟩) (by decide) (by decide)

def Q1_32 (Z : State) (ra : Addr) (rb : Addr) (qq : Int32) (ka : ClassId) (kb : ClassId) (rd0 : UInt64) (rd1 : UInt64) (rd2 : UInt64) (we0 : UInt64) (we1 : UInt64) (we2 : UInt64) (rk0 : Int) (rk1 : Int) (rk2 : Int) (wj0 : Int) (wj1 : Int) (wj2 : Int) (h0 : Heap) (n0 : Nat) (v : Option Value) (h : Heap) (L : List Loc) : Prop := ∃ x : UInt64, v = some (.double x) ∧ Fr n0 L ∧ h = h0 ∧ own_Dy ((0 + (wj0 * rk0)) + (wj1 * rk1)) 67108864 x
set_option maxRecDepth 65536 in
set_option maxHeartbeats 40000000 in
theorem rm1_32 (l : Launch) (Z : State) (a0 : Array Value) (hw : ∀ d ∈ tables_1, d.before a0 Z = true) (ws : List Jvm.Cond) (ra : Addr) (rb : Addr) (qq : Int32) (ka : ClassId) (kb : ClassId) (rd0 : UInt64) (rd1 : UInt64) (rd2 : UInt64) (we0 : UInt64) (we1 : UInt64) (we2 : UInt64) (rk0 : Int) (rk1 : Int) (rk2 : Int) (wj0 : Int) (wj1 : Int) (wj2 : Int) (h0 : Heap) (n0 : Nat) (Z0 : n0 ≤ h0.size) (V_ra : Arv Z h0 ra ka .double (3 : Int32) [(.double rd0), (.double rd1), (.double rd2)] (.double (0 : UInt64))) (V_rb : Arv Z h0 rb kb .double (3 : Int32) [(.double we0), (.double we1), (.double we2)] (.double (0 : UInt64))) (Yd0 : own_Dy rk0 1024 rd0) (Ye0 : own_Di wj0 32768 we0) (Yd1 : own_Dy rk1 1024 rd1) (Ye1 : own_Di wj1 32768 we1) (Yd2 : own_Dy rk2 1024 rd2) (Ye2 : own_Di wj2 32768 we2) (hq0 : ¬ ((0 : Int32) = qq)) (hq1 : ¬ ((1 : Int32) = qq)) (hq2 : (2 : Int32) = qq) :
    MetFree l (⟨"com/example/rivulet/rivulet/flow/Flow", "expected", "([D[DI)D"⟩ : MethodName) (head1 (Jvm.Cond.code (⟨"com/example/rivulet/rivulet/flow/Flow", "expected", "([D[DI)D"⟩ : MethodName) prog_17_method_4_code 6 (some .double) :: ws) ({ frames := 0, cells := 0, slots := 0, locals := 0 } : Room)) (fun a U => a = #[(.ref ra), (.ref rb), (.int qq)] ∧ Z.Warmed39 U.vm ∧ U.heap = h0) (fun _ _ _ _ _ => True) (fun _ U o U' => ∃ v L, o = .returned v ∧ Q1_32 Z ra rb qq ka kb rd0 rd1 rd2 we0 we1 we2 rk0 rk1 rk2 wj0 wj1 wj2 h0 n0 v U'.heap L ∧ FrameEnd U o U' L ({ frames := 0, cells := 0, slots := 0, locals := 0 } : Room).cells ({ frames := 0, cells := 0, slots := 0, locals := 0 } : Room).slots) := by
  refine MetFree.of_bodySF (plainFor_of_name pn_1) hisR ?_
  intro p e s m args below meth c s₁ Bd hml0 hP hK
  obtain ⟨rfl, hZ, hh⟩ := hP
  have hx := Bd.exec
  have hby := Bd.bytes
  have hml : c.maxLocals = 6 := hml0
  have hown : s.vm.findClass "com/example/rivulet/rivulet/flow/Flow" = some m.cls := findClass_of_methodNamed Bd.named
  have hnm := (name_of_methodNamed Bd.named Bd.method).1
  have X0 : Stand p l e ({ frames := 0, cells := 0, slots := 0, locals := 0 } : Room) s m #[(.ref ra), (.ref rb), (.int qq)] below meth c s₁ [] 0 0 := Stand.of_body Bd
  have e0 : s₁.heap = h0 := by rw [← hh, Bd.state]; rfl
  have N0 := Fr.nil n0
  change own_Go p e below (own_Post s (Q1_32 Z ra rb qq ka kb rd0 rd1 rd2 we0 we1 we2 rk0 rk1 rk2 wj0 wj1 wj2 h0 n0) ({ frames := 0, cells := 0, slots := 0, locals := 0 } : Room).cells ({ frames := 0, cells := 0, slots := 0, locals := 0 } : Room).slots) (s₁.setTop (entryFrame m #[(.ref ra), (.ref rb), (.int qq)] 6))
  refine own_by (fun t k => castTop (ef_1 m ra rb qq) k) ?_
  show own_Go p e below _ (s₁.setTop (mkF m 0 #[rv ra, rv rb, iv qq, oU, oU, oU] []))
  refine own_by (fun t k => XS.dconst0 X0.here hx rfl (hb hby d1_0) own_dz k) ?_
  show own_Go p e below _ (s₁.setTop (mkF m 1 #[rv ra, rv rb, iv qq, oU, oU, oU] [(.double (0 : UInt64))]))
  refine own_by (B := s₁.setTop (mkF m 27 #[rv ra, rv rb, iv qq, oD (0 : UInt64), oS, iv (0 : Int32)] [(.double rd0), (.double we0), (.double (0 : UInt64))])) (fun t k => ?_) ?_
  · show Steps p.tables e below (s₁.setTop (mkF m 1 #[rv ra, rv rb, iv qq, oU, oU, oU] [(.double (0 : UInt64))])) _
    refine XS.dstoreN X0.here hx rfl (hb hby d1_1) rfl (l' := #[rv ra, rv rb, iv qq, oD (0 : UInt64), oS, oU]) rfl ?_
    show Steps p.tables e below (s₁.setTop (mkF m 2 #[rv ra, rv rb, iv qq, oD (0 : UInt64), oS, oU] [])) _
    refine XS.iconst X0.here hx rfl (hb hby d1_2) ?_
    show Steps p.tables e below (s₁.setTop (mkF m 3 #[rv ra, rv rb, iv qq, oD (0 : UInt64), oS, oU] [(.int (0 : Int32))])) _
    refine XS.istore X0.here hx rfl (hb hby d1_3) rfl (l' := #[rv ra, rv rb, iv qq, oD (0 : UInt64), oS, iv (0 : Int32)]) rfl ?_
    show Steps p.tables e below (s₁.setTop (mkF m 5 #[rv ra, rv rb, iv qq, oD (0 : UInt64), oS, iv (0 : Int32)] [])) _
    refine XS.iload X0.here hx rfl (hb hby d1_5) rfl ?_
    show Steps p.tables e below (s₁.setTop (mkF m 7 #[rv ra, rv rb, iv qq, oD (0 : UInt64), oS, iv (0 : Int32)] [(.int (0 : Int32))])) _
    refine XS.aloadN X0.here hx rfl (hb hby d1_7) rfl rfl ?_
    show Steps p.tables e below (s₁.setTop (mkF m 8 #[rv ra, rv rb, iv qq, oD (0 : UInt64), oS, iv (0 : Int32)] [(.ref ra), (.int (0 : Int32))])) _
    obtain ⟨cl2, Ar2, -, S2, N2, -, -⟩ := id V_ra
    refine X0.arraylength hx (by rw [show s₁.heap = h0 from e0]; exact Ar2.1) (State.isArrayOf_alike hZ.alike Ar2.2.1) (g := (mkF m 8 #[rv ra, rv rb, iv qq, oD (0 : UInt64), oS, iv (0 : Int32)] [(.ref ra), (.int (0 : Int32))])) rfl rfl (hb hby d1_8) _ ?_
    rw [len_of S2 N2]
    show Steps p.tables e below (s₁.setTop (mkF m 9 #[rv ra, rv rb, iv qq, oD (0 : UInt64), oS, iv (0 : Int32)] [(.int (3 : Int32)), (.int (0 : Int32))])) _
    refine XS.icmpNo X0.here hx rfl (hb hby d1_9) rfl (tlt (by decide : (0 : Int32) < (3 : Int32))).2.1 ?_
    show Steps p.tables e below (s₁.setTop (mkF m 12 #[rv ra, rv rb, iv qq, oD (0 : UInt64), oS, iv (0 : Int32)] [])) _
    refine XS.iload X0.here hx rfl (hb hby d1_12) rfl ?_
    show Steps p.tables e below (s₁.setTop (mkF m 14 #[rv ra, rv rb, iv qq, oD (0 : UInt64), oS, iv (0 : Int32)] [(.int (0 : Int32))])) _
    refine XS.iloadN X0.here hx rfl (hb hby d1_14) rfl ?_
    show Steps p.tables e below (s₁.setTop (mkF m 15 #[rv ra, rv rb, iv qq, oD (0 : UInt64), oS, iv (0 : Int32)] [(.int qq), (.int (0 : Int32))])) _
    refine XS.icmpNo X0.here hx rfl (hb hby d1_15) rfl (feq hq0).1 ?_
    show Steps p.tables e below (s₁.setTop (mkF m 18 #[rv ra, rv rb, iv qq, oD (0 : UInt64), oS, iv (0 : Int32)] [])) _
    refine XS.dloadN X0.here hx rfl (hb hby d1_18) rfl ?_
    show Steps p.tables e below (s₁.setTop (mkF m 19 #[rv ra, rv rb, iv qq, oD (0 : UInt64), oS, iv (0 : Int32)] [(.double (0 : UInt64))])) _
    refine XS.aloadN X0.here hx rfl (hb hby d1_19) rfl rfl ?_
    show Steps p.tables e below (s₁.setTop (mkF m 20 #[rv ra, rv rb, iv qq, oD (0 : UInt64), oS, iv (0 : Int32)] [(.ref rb), (.double (0 : UInt64))])) _
    refine XS.iload X0.here hx rfl (hb hby d1_20) rfl ?_
    show Steps p.tables e below (s₁.setTop (mkF m 22 #[rv ra, rv rb, iv qq, oD (0 : UInt64), oS, iv (0 : Int32)] [(.int (0 : Int32)), (.ref rb), (.double (0 : UInt64))])) _
    obtain ⟨cl3, Ar3, q3, S3, N3, H3, G3⟩ := id V_rb
    have hin3 : ¬ ((0 : Int32) < 0 ∨ cl3.slots.size ≤ ((0 : Int32)).toNatClampNeg) := inb_of S3 ⟨by decide, by decide⟩
    have hat3 : cl3.slots[((0 : Int32)).toNatClampNeg]? = some (.double we0) := H3.at hin3 rfl
    refine X0.daload hx (j := (0 : Int32)) (v := (.double we0)) (by rw [show s₁.heap = h0 from e0]; exact Ar3.1) (State.isArrayOf_alike hZ.alike Ar3.2.1) Ar3.2.2 hin3 hat3 (g := (mkF m 22 #[rv ra, rv rb, iv qq, oD (0 : UInt64), oS, iv (0 : Int32)] [(.int (0 : Int32)), (.ref rb), (.double (0 : UInt64))])) rfl rfl (hb hby d1_22) _ ?_
    show Steps p.tables e below (s₁.setTop (mkF m 23 #[rv ra, rv rb, iv qq, oD (0 : UInt64), oS, iv (0 : Int32)] [(.double we0), (.double (0 : UInt64))])) _
    refine XS.aloadN X0.here hx rfl (hb hby d1_23) rfl rfl ?_
    show Steps p.tables e below (s₁.setTop (mkF m 24 #[rv ra, rv rb, iv qq, oD (0 : UInt64), oS, iv (0 : Int32)] [(.ref ra), (.double we0), (.double (0 : UInt64))])) _
    refine XS.iload X0.here hx rfl (hb hby d1_24) rfl ?_
    show Steps p.tables e below (s₁.setTop (mkF m 26 #[rv ra, rv rb, iv qq, oD (0 : UInt64), oS, iv (0 : Int32)] [(.int (0 : Int32)), (.ref ra), (.double we0), (.double (0 : UInt64))])) _
    obtain ⟨cl4, Ar4, q4, S4, N4, H4, G4⟩ := id V_ra
    have hin4 : ¬ ((0 : Int32) < 0 ∨ cl4.slots.size ≤ ((0 : Int32)).toNatClampNeg) := inb_of S4 ⟨by decide, by decide⟩
    have hat4 : cl4.slots[((0 : Int32)).toNatClampNeg]? = some (.double rd0) := H4.at hin4 rfl
    refine X0.daload hx (j := (0 : Int32)) (v := (.double rd0)) (by rw [show s₁.heap = h0 from e0]; exact Ar4.1) (State.isArrayOf_alike hZ.alike Ar4.2.1) Ar4.2.2 hin4 hat4 (g := (mkF m 26 #[rv ra, rv rb, iv qq, oD (0 : UInt64), oS, iv (0 : Int32)] [(.int (0 : Int32)), (.ref ra), (.double we0), (.double (0 : UInt64))])) rfl rfl (hb hby d1_26) _ ?_
    show Steps p.tables e below (s₁.setTop (mkF m 27 #[rv ra, rv rb, iv qq, oD (0 : UInt64), oS, iv (0 : Int32)] [(.double rd0), (.double we0), (.double (0 : UInt64))])) _
    exact k
  have Y5 : own_Dy (wj0 * rk0) 33554432 (FP.dmul we0 rd0) := (own_dmul Ye0 Yd0 (by decide))
  refine own_by (fun t k => XS.dmulS X0.here hx rfl (hb hby d1_27) rfl (own_nnY Y5) rfl k) ?_
  generalize (FP.dmul we0 rd0) = d5 at Y5 ⊢
  show own_Go p e below _ (s₁.setTop (mkF m 28 #[rv ra, rv rb, iv qq, oD (0 : UInt64), oS, iv (0 : Int32)] [(.double d5), (.double (0 : UInt64))]))
  have Y6 : own_Dy (0 + (wj0 * rk0)) 33554432 (FP.dadd (0 : UInt64) d5) := (own_dadd own_d0 Y5 (by decide))
  refine own_by (fun t k => XS.daddS X0.here hx rfl (hb hby d1_28) rfl (own_nnY Y6) rfl k) ?_
  generalize (FP.dadd (0 : UInt64) d5) = d6 at Y6 ⊢
  show own_Go p e below _ (s₁.setTop (mkF m 29 #[rv ra, rv rb, iv qq, oD (0 : UInt64), oS, iv (0 : Int32)] [(.double d6)]))
  refine own_by (B := s₁.setTop (mkF m 27 #[rv ra, rv rb, iv qq, oD d6, oS, iv (1 : Int32)] [(.double rd1), (.double we1), (.double d6)])) (fun t k => ?_) ?_
  · show Steps p.tables e below (s₁.setTop (mkF m 29 #[rv ra, rv rb, iv qq, oD (0 : UInt64), oS, iv (0 : Int32)] [(.double d6)])) _
    refine XS.dstoreN X0.here hx rfl (hb hby d1_29) rfl (l' := #[rv ra, rv rb, iv qq, oD d6, oS, iv (0 : Int32)]) rfl ?_
    show Steps p.tables e below (s₁.setTop (mkF m 30 #[rv ra, rv rb, iv qq, oD d6, oS, iv (0 : Int32)] [])) _
    refine XS.iinc X0.here hx rfl (hb hby d1_30) rfl (l' := #[rv ra, rv rb, iv qq, oD d6, oS, iv (1 : Int32)]) rfl ?_
    show Steps p.tables e below (s₁.setTop (mkF m 33 #[rv ra, rv rb, iv qq, oD d6, oS, iv (1 : Int32)] [])) _
    refine XS.goto X0.here hx rfl (pc0 := 33) (pc' := 5) rfl (hb hby d1_33) (by decide) (by decide) ?_
    show Steps p.tables e below (s₁.setTop (mkF m 5 #[rv ra, rv rb, iv qq, oD d6, oS, iv (1 : Int32)] [])) _
    refine XS.iload X0.here hx rfl (hb hby d1_5) rfl ?_
    show Steps p.tables e below (s₁.setTop (mkF m 7 #[rv ra, rv rb, iv qq, oD d6, oS, iv (1 : Int32)] [(.int (1 : Int32))])) _
    refine XS.aloadN X0.here hx rfl (hb hby d1_7) rfl rfl ?_
    show Steps p.tables e below (s₁.setTop (mkF m 8 #[rv ra, rv rb, iv qq, oD d6, oS, iv (1 : Int32)] [(.ref ra), (.int (1 : Int32))])) _
    obtain ⟨cl7, Ar7, -, S7, N7, -, -⟩ := id V_ra
    refine X0.arraylength hx (by rw [show s₁.heap = h0 from e0]; exact Ar7.1) (State.isArrayOf_alike hZ.alike Ar7.2.1) (g := (mkF m 8 #[rv ra, rv rb, iv qq, oD d6, oS, iv (1 : Int32)] [(.ref ra), (.int (1 : Int32))])) rfl rfl (hb hby d1_8) _ ?_
    rw [len_of S7 N7]
    show Steps p.tables e below (s₁.setTop (mkF m 9 #[rv ra, rv rb, iv qq, oD d6, oS, iv (1 : Int32)] [(.int (3 : Int32)), (.int (1 : Int32))])) _
    refine XS.icmpNo X0.here hx rfl (hb hby d1_9) rfl (tlt (by decide : (1 : Int32) < (3 : Int32))).2.1 ?_
    show Steps p.tables e below (s₁.setTop (mkF m 12 #[rv ra, rv rb, iv qq, oD d6, oS, iv (1 : Int32)] [])) _
    refine XS.iload X0.here hx rfl (hb hby d1_12) rfl ?_
    show Steps p.tables e below (s₁.setTop (mkF m 14 #[rv ra, rv rb, iv qq, oD d6, oS, iv (1 : Int32)] [(.int (1 : Int32))])) _
    refine XS.iloadN X0.here hx rfl (hb hby d1_14) rfl ?_
    show Steps p.tables e below (s₁.setTop (mkF m 15 #[rv ra, rv rb, iv qq, oD d6, oS, iv (1 : Int32)] [(.int qq), (.int (1 : Int32))])) _
    refine XS.icmpNo X0.here hx rfl (hb hby d1_15) rfl (feq hq1).1 ?_
    show Steps p.tables e below (s₁.setTop (mkF m 18 #[rv ra, rv rb, iv qq, oD d6, oS, iv (1 : Int32)] [])) _
    refine XS.dloadN X0.here hx rfl (hb hby d1_18) rfl ?_
    show Steps p.tables e below (s₁.setTop (mkF m 19 #[rv ra, rv rb, iv qq, oD d6, oS, iv (1 : Int32)] [(.double d6)])) _
    refine XS.aloadN X0.here hx rfl (hb hby d1_19) rfl rfl ?_
    show Steps p.tables e below (s₁.setTop (mkF m 20 #[rv ra, rv rb, iv qq, oD d6, oS, iv (1 : Int32)] [(.ref rb), (.double d6)])) _
    refine XS.iload X0.here hx rfl (hb hby d1_20) rfl ?_
    show Steps p.tables e below (s₁.setTop (mkF m 22 #[rv ra, rv rb, iv qq, oD d6, oS, iv (1 : Int32)] [(.int (1 : Int32)), (.ref rb), (.double d6)])) _
    obtain ⟨cl8, Ar8, q8, S8, N8, H8, G8⟩ := id V_rb
    have hin8 : ¬ ((1 : Int32) < 0 ∨ cl8.slots.size ≤ ((1 : Int32)).toNatClampNeg) := inb_of S8 ⟨by decide, by decide⟩
    have hat8 : cl8.slots[((1 : Int32)).toNatClampNeg]? = some (.double we1) := H8.at hin8 rfl
    refine X0.daload hx (j := (1 : Int32)) (v := (.double we1)) (by rw [show s₁.heap = h0 from e0]; exact Ar8.1) (State.isArrayOf_alike hZ.alike Ar8.2.1) Ar8.2.2 hin8 hat8 (g := (mkF m 22 #[rv ra, rv rb, iv qq, oD d6, oS, iv (1 : Int32)] [(.int (1 : Int32)), (.ref rb), (.double d6)])) rfl rfl (hb hby d1_22) _ ?_
    show Steps p.tables e below (s₁.setTop (mkF m 23 #[rv ra, rv rb, iv qq, oD d6, oS, iv (1 : Int32)] [(.double we1), (.double d6)])) _
    refine XS.aloadN X0.here hx rfl (hb hby d1_23) rfl rfl ?_
    show Steps p.tables e below (s₁.setTop (mkF m 24 #[rv ra, rv rb, iv qq, oD d6, oS, iv (1 : Int32)] [(.ref ra), (.double we1), (.double d6)])) _
    refine XS.iload X0.here hx rfl (hb hby d1_24) rfl ?_
    show Steps p.tables e below (s₁.setTop (mkF m 26 #[rv ra, rv rb, iv qq, oD d6, oS, iv (1 : Int32)] [(.int (1 : Int32)), (.ref ra), (.double we1), (.double d6)])) _
    obtain ⟨cl9, Ar9, q9, S9, N9, H9, G9⟩ := id V_ra
    have hin9 : ¬ ((1 : Int32) < 0 ∨ cl9.slots.size ≤ ((1 : Int32)).toNatClampNeg) := inb_of S9 ⟨by decide, by decide⟩
    have hat9 : cl9.slots[((1 : Int32)).toNatClampNeg]? = some (.double rd1) := H9.at hin9 rfl
    refine X0.daload hx (j := (1 : Int32)) (v := (.double rd1)) (by rw [show s₁.heap = h0 from e0]; exact Ar9.1) (State.isArrayOf_alike hZ.alike Ar9.2.1) Ar9.2.2 hin9 hat9 (g := (mkF m 26 #[rv ra, rv rb, iv qq, oD d6, oS, iv (1 : Int32)] [(.int (1 : Int32)), (.ref ra), (.double we1), (.double d6)])) rfl rfl (hb hby d1_26) _ ?_
    show Steps p.tables e below (s₁.setTop (mkF m 27 #[rv ra, rv rb, iv qq, oD d6, oS, iv (1 : Int32)] [(.double rd1), (.double we1), (.double d6)])) _
    exact k
  have Y10 : own_Dy (wj1 * rk1) 33554432 (FP.dmul we1 rd1) := (own_dmul Ye1 Yd1 (by decide))
  refine own_by (fun t k => XS.dmulS X0.here hx rfl (hb hby d1_27) rfl (own_nnY Y10) rfl k) ?_
  generalize (FP.dmul we1 rd1) = d10 at Y10 ⊢
  show own_Go p e below _ (s₁.setTop (mkF m 28 #[rv ra, rv rb, iv qq, oD d6, oS, iv (1 : Int32)] [(.double d10), (.double d6)]))
  have Y11 : own_Dy ((0 + (wj0 * rk0)) + (wj1 * rk1)) 67108864 (FP.dadd d6 d10) := (own_dadd Y6 Y10 (by decide))
  refine own_by (fun t k => XS.daddS X0.here hx rfl (hb hby d1_28) rfl (own_nnY Y11) rfl k) ?_
  generalize (FP.dadd d6 d10) = d11 at Y11 ⊢
  show own_Go p e below _ (s₁.setTop (mkF m 29 #[rv ra, rv rb, iv qq, oD d6, oS, iv (1 : Int32)] [(.double d11)]))
  refine own_by (B := s₁.setTop (mkF m 37 #[rv ra, rv rb, iv qq, oD d11, oS, iv (3 : Int32)] [(.double d11)])) (fun t k => ?_) ?_
  · show Steps p.tables e below (s₁.setTop (mkF m 29 #[rv ra, rv rb, iv qq, oD d6, oS, iv (1 : Int32)] [(.double d11)])) _
    refine XS.dstoreN X0.here hx rfl (hb hby d1_29) rfl (l' := #[rv ra, rv rb, iv qq, oD d11, oS, iv (1 : Int32)]) rfl ?_
    show Steps p.tables e below (s₁.setTop (mkF m 30 #[rv ra, rv rb, iv qq, oD d11, oS, iv (1 : Int32)] [])) _
    refine XS.iinc X0.here hx rfl (hb hby d1_30) rfl (l' := #[rv ra, rv rb, iv qq, oD d11, oS, iv (2 : Int32)]) rfl ?_
    show Steps p.tables e below (s₁.setTop (mkF m 33 #[rv ra, rv rb, iv qq, oD d11, oS, iv (2 : Int32)] [])) _
    refine XS.goto X0.here hx rfl (pc0 := 33) (pc' := 5) rfl (hb hby d1_33) (by decide) (by decide) ?_
    show Steps p.tables e below (s₁.setTop (mkF m 5 #[rv ra, rv rb, iv qq, oD d11, oS, iv (2 : Int32)] [])) _
    refine XS.iload X0.here hx rfl (hb hby d1_5) rfl ?_
    show Steps p.tables e below (s₁.setTop (mkF m 7 #[rv ra, rv rb, iv qq, oD d11, oS, iv (2 : Int32)] [(.int (2 : Int32))])) _
    refine XS.aloadN X0.here hx rfl (hb hby d1_7) rfl rfl ?_
    show Steps p.tables e below (s₁.setTop (mkF m 8 #[rv ra, rv rb, iv qq, oD d11, oS, iv (2 : Int32)] [(.ref ra), (.int (2 : Int32))])) _
    obtain ⟨cl12, Ar12, -, S12, N12, -, -⟩ := id V_ra
    refine X0.arraylength hx (by rw [show s₁.heap = h0 from e0]; exact Ar12.1) (State.isArrayOf_alike hZ.alike Ar12.2.1) (g := (mkF m 8 #[rv ra, rv rb, iv qq, oD d11, oS, iv (2 : Int32)] [(.ref ra), (.int (2 : Int32))])) rfl rfl (hb hby d1_8) _ ?_
    rw [len_of S12 N12]
    show Steps p.tables e below (s₁.setTop (mkF m 9 #[rv ra, rv rb, iv qq, oD d11, oS, iv (2 : Int32)] [(.int (3 : Int32)), (.int (2 : Int32))])) _
    refine XS.icmpNo X0.here hx rfl (hb hby d1_9) rfl (tlt (by decide : (2 : Int32) < (3 : Int32))).2.1 ?_
    show Steps p.tables e below (s₁.setTop (mkF m 12 #[rv ra, rv rb, iv qq, oD d11, oS, iv (2 : Int32)] [])) _
    refine XS.iload X0.here hx rfl (hb hby d1_12) rfl ?_
    show Steps p.tables e below (s₁.setTop (mkF m 14 #[rv ra, rv rb, iv qq, oD d11, oS, iv (2 : Int32)] [(.int (2 : Int32))])) _
    refine XS.iloadN X0.here hx rfl (hb hby d1_14) rfl ?_
    show Steps p.tables e below (s₁.setTop (mkF m 15 #[rv ra, rv rb, iv qq, oD d11, oS, iv (2 : Int32)] [(.int qq), (.int (2 : Int32))])) _
    refine XS.icmpYes X0.here hx rfl (pc0 := 15) (pc' := 30) rfl (hb hby d1_15) rfl (teq hq2).1 (by decide) (by decide) ?_
    show Steps p.tables e below (s₁.setTop (mkF m 30 #[rv ra, rv rb, iv qq, oD d11, oS, iv (2 : Int32)] [])) _
    refine XS.iinc X0.here hx rfl (hb hby d1_30) rfl (l' := #[rv ra, rv rb, iv qq, oD d11, oS, iv (3 : Int32)]) rfl ?_
    show Steps p.tables e below (s₁.setTop (mkF m 33 #[rv ra, rv rb, iv qq, oD d11, oS, iv (3 : Int32)] [])) _
    refine XS.goto X0.here hx rfl (pc0 := 33) (pc' := 5) rfl (hb hby d1_33) (by decide) (by decide) ?_
    show Steps p.tables e below (s₁.setTop (mkF m 5 #[rv ra, rv rb, iv qq, oD d11, oS, iv (3 : Int32)] [])) _
    refine XS.iload X0.here hx rfl (hb hby d1_5) rfl ?_
    show Steps p.tables e below (s₁.setTop (mkF m 7 #[rv ra, rv rb, iv qq, oD d11, oS, iv (3 : Int32)] [(.int (3 : Int32))])) _
    refine XS.aloadN X0.here hx rfl (hb hby d1_7) rfl rfl ?_
    show Steps p.tables e below (s₁.setTop (mkF m 8 #[rv ra, rv rb, iv qq, oD d11, oS, iv (3 : Int32)] [(.ref ra), (.int (3 : Int32))])) _
    obtain ⟨cl13, Ar13, -, S13, N13, -, -⟩ := id V_ra
    refine X0.arraylength hx (by rw [show s₁.heap = h0 from e0]; exact Ar13.1) (State.isArrayOf_alike hZ.alike Ar13.2.1) (g := (mkF m 8 #[rv ra, rv rb, iv qq, oD d11, oS, iv (3 : Int32)] [(.ref ra), (.int (3 : Int32))])) rfl rfl (hb hby d1_8) _ ?_
    rw [len_of S13 N13]
    show Steps p.tables e below (s₁.setTop (mkF m 9 #[rv ra, rv rb, iv qq, oD d11, oS, iv (3 : Int32)] [(.int (3 : Int32)), (.int (3 : Int32))])) _
    refine XS.icmpYes X0.here hx rfl (pc0 := 9) (pc' := 36) rfl (hb hby d1_9) rfl (flt (by decide : ¬ ((3 : Int32) < (3 : Int32)))).2.1 (by decide) (by decide) ?_
    show Steps p.tables e below (s₁.setTop (mkF m 36 #[rv ra, rv rb, iv qq, oD d11, oS, iv (3 : Int32)] [])) _
    refine XS.dloadN X0.here hx rfl (hb hby d1_36) rfl ?_
    show Steps p.tables e below (s₁.setTop (mkF m 37 #[rv ra, rv rb, iv qq, oD d11, oS, iv (3 : Int32)] [(.double d11)])) _
    exact k
  exact own_retD X0 Bd.notSynchronized hx Bd.returns (hb hby d1_37) (by
      try rw [show s₁.heap = h0 from e0]
      exact ⟨d11, rfl, N0, rfl, Y11⟩) (by decide) (by decide)

theorem pn_0 : plainName "com/example/rivulet/rivulet/flow/FlowExpectedPinLaw" = true := by first | (simp [plainName, overriddenIn]; done) | decide +kernel
theorem pd_0 : parseMethodDescriptor "([D[DI)D" = some ⟨[(.array .double), (.array .double), .int], some .double⟩ := by decide +kernel
theorem ef_0 (m : MethodId) (x0 : Int32) (x1 : Int64) (x2 : Int64) (x3 : Int32) : entryFrame m #[(.int x0), (.long x1), (.long x2), (.int x3)] maxLocals = mkF m 0 #[iv x0, oJ x1, oS, oJ x2, oS, iv x3, oU, oU, oU, oU, oU, oU, oU, oU, oU, oU, oU, oU, oU, oU, oU] [] := by first | (simp [entryFrame, mkF, argsToLocals, Value.category, maxLocals]; done) | rfl
def Q0 (Z : State) (p0 : Int32) (q1 : Int64) (q2 : Int64) (p3 : Int32) (h0 : Heap) (n0 : Nat) (v : Option Value) (h : Heap) (L : List Loc) : Prop := v = some (.int (1 : Int32)) ∧ Fr n0 L
set_option maxRecDepth 65536 in
set_option maxHeartbeats 40000000 in
theorem rm0 (l : Launch) (Z : State) (a0 : Array Value) (hw : ∀ d ∈ tables_1, d.before a0 Z = true) (ws : List Jvm.Cond) (p0 : Int32) (q1 : Int64) (q2 : Int64) (p3 : Int32) (h0 : Heap) (n0 : Nat) (Z0 : n0 ≤ h0.size) :
    MetFree l x (head1 (Jvm.Cond.code x code maxLocals ret :: ws) room_1) (fun a U => a = #[(.int p0), (.long q1), (.long q2), (.int p3)] ∧ Z.Warmed39 U.vm ∧ U.heap = h0) (fun _ _ _ _ _ => True) (fun _ U o U' => ∃ v L, o = .returned v ∧ Q0 Z p0 q1 q2 p3 h0 n0 v U'.heap L ∧ FrameEnd U o U' L room_1.cells room_1.slots) := by
  refine MetFree.of_bodySF (plainFor_of_name pn_0) hisR ?_
  intro p e s m args below meth c s₁ Bd hml0 hP hK
  obtain ⟨rfl, hZ, hh⟩ := hP
  have hx := Bd.exec
  have hby := Bd.bytes
  have hml : c.maxLocals = 21 := hml0
  have hown : s.vm.findClass "com/example/rivulet/rivulet/flow/FlowExpectedPinLaw" = some m.cls := findClass_of_methodNamed Bd.named
  have hnm := (name_of_methodNamed Bd.named Bd.method).1
  have X0 : Stand p l e room_1 s m #[(.int p0), (.long q1), (.long q2), (.int p3)] below meth c s₁ [] 0 0 := Stand.of_body Bd
  have e0 : s₁.heap = h0 := by rw [← hh, Bd.state]; rfl
  have N0 := Fr.nil n0
  change own_Go p e below (own_Post s (Q0 Z p0 q1 q2 p3 h0 n0) room_1.cells room_1.slots) (s₁.setTop (entryFrame m #[(.int p0), (.long q1), (.long q2), (.int p3)] maxLocals))
  refine own_by (fun t k => castTop (ef_0 m p0 q1 q2 p3) k) ?_
  show own_Go p e below _ (s₁.setTop (mkF m 0 #[iv p0, oJ q1, oS, oJ q2, oS, iv p3, oU, oU, oU, oU, oU, oU, oU, oU, oU, oU, oU, oU, oU, oU, oU] []))
  refine own_by (B := s₁.setTop (mkF m 39 #[iv p0, oJ q1, oS, oJ q2, oS, iv p3, iv (p0 &&& (3 : Int32)), iv (if (p0 &&& (4 : Int32)) = (0 : Int32) then (0 : Int32) else (1 : Int32)), iv (if (if (p0 &&& (4 : Int32)) = (0 : Int32) then (0 : Int32) else (1 : Int32)) = (0 : Int32) then (((p3 &&& (2147483647 : Int32)) % (5 : Int32)) - (1 : Int32)) else p3), oU, oU, oU, oU, oU, oU, oU, oU, oU, oU, oU, oU] [])) (fun t k => ?_) ?_
  · show Steps p.tables e below (s₁.setTop (mkF m 0 #[iv p0, oJ q1, oS, oJ q2, oS, iv p3, oU, oU, oU, oU, oU, oU, oU, oU, oU, oU, oU, oU, oU, oU, oU] [])) _
    refine XS.iloadN X0.here hx rfl (hb hby at_0) rfl ?_
    show Steps p.tables e below (s₁.setTop (mkF m 1 #[iv p0, oJ q1, oS, oJ q2, oS, iv p3, oU, oU, oU, oU, oU, oU, oU, oU, oU, oU, oU, oU, oU, oU, oU] [(.int p0)])) _
    refine XS.iconst X0.here hx rfl (hb hby at_1) ?_
    show Steps p.tables e below (s₁.setTop (mkF m 2 #[iv p0, oJ q1, oS, oJ q2, oS, iv p3, oU, oU, oU, oU, oU, oU, oU, oU, oU, oU, oU, oU, oU, oU, oU] [(.int (3 : Int32)), (.int p0)])) _
    refine XS.iand X0.here hx rfl (hb hby at_2) rfl ?_
    show Steps p.tables e below (s₁.setTop (mkF m 3 #[iv p0, oJ q1, oS, oJ q2, oS, iv p3, oU, oU, oU, oU, oU, oU, oU, oU, oU, oU, oU, oU, oU, oU, oU] [(.int (p0 &&& (3 : Int32)))])) _
    refine XS.istore X0.here hx rfl (hb hby at_3) rfl (l' := #[iv p0, oJ q1, oS, oJ q2, oS, iv p3, iv (p0 &&& (3 : Int32)), oU, oU, oU, oU, oU, oU, oU, oU, oU, oU, oU, oU, oU, oU]) rfl ?_
    show Steps p.tables e below (s₁.setTop (mkF m 5 #[iv p0, oJ q1, oS, oJ q2, oS, iv p3, iv (p0 &&& (3 : Int32)), oU, oU, oU, oU, oU, oU, oU, oU, oU, oU, oU, oU, oU, oU] [])) _
    refine XS.iloadN X0.here hx rfl (hb hby at_5) rfl ?_
    show Steps p.tables e below (s₁.setTop (mkF m 6 #[iv p0, oJ q1, oS, oJ q2, oS, iv p3, iv (p0 &&& (3 : Int32)), oU, oU, oU, oU, oU, oU, oU, oU, oU, oU, oU, oU, oU, oU] [(.int p0)])) _
    refine XS.iconst X0.here hx rfl (hb hby at_6) ?_
    show Steps p.tables e below (s₁.setTop (mkF m 7 #[iv p0, oJ q1, oS, oJ q2, oS, iv p3, iv (p0 &&& (3 : Int32)), oU, oU, oU, oU, oU, oU, oU, oU, oU, oU, oU, oU, oU, oU] [(.int (4 : Int32)), (.int p0)])) _
    refine XS.iand X0.here hx rfl (hb hby at_7) rfl ?_
    show Steps p.tables e below (s₁.setTop (mkF m 8 #[iv p0, oJ q1, oS, oJ q2, oS, iv p3, iv (p0 &&& (3 : Int32)), oU, oU, oU, oU, oU, oU, oU, oU, oU, oU, oU, oU, oU, oU] [(.int (p0 &&& (4 : Int32)))])) _
    refine (fun t (k : Steps p.tables e below (s₁.setTop (mkF m 16 #[iv p0, oJ q1, oS, oJ q2, oS, iv p3, iv (p0 &&& (3 : Int32)), oU, oU, oU, oU, oU, oU, oU, oU, oU, oU, oU, oU, oU, oU] [(.int (if (p0 &&& (4 : Int32)) = (0 : Int32) then (0 : Int32) else (1 : Int32)))])) t) => (?_ : Steps p.tables e below _ t)) _ ?_
    · by_cases hc1 : (p0 &&& (4 : Int32)) = (0 : Int32)
      · simp only [if_pos hc1] at k
        refine XS.ifYes X0.here hx rfl (pc0 := 8) (pc' := 15) rfl (hb hby at_8) rfl ((if0 _ _).trans (teq hc1).1) (by decide) (by decide) ?_
        show Steps p.tables e below (s₁.setTop (mkF m 15 #[iv p0, oJ q1, oS, oJ q2, oS, iv p3, iv (p0 &&& (3 : Int32)), oU, oU, oU, oU, oU, oU, oU, oU, oU, oU, oU, oU, oU, oU] [])) _
        refine XS.iconst X0.here hx rfl (hb hby at_15) ?_
        show Steps p.tables e below (s₁.setTop (mkF m 16 #[iv p0, oJ q1, oS, oJ q2, oS, iv p3, iv (p0 &&& (3 : Int32)), oU, oU, oU, oU, oU, oU, oU, oU, oU, oU, oU, oU, oU, oU] [(.int (0 : Int32))])) _
        exact k
      · simp only [if_neg hc1] at k
        refine XS.ifNo X0.here hx rfl (hb hby at_8) rfl ((if0 _ _).trans (feq hc1).1) ?_
        show Steps p.tables e below (s₁.setTop (mkF m 11 #[iv p0, oJ q1, oS, oJ q2, oS, iv p3, iv (p0 &&& (3 : Int32)), oU, oU, oU, oU, oU, oU, oU, oU, oU, oU, oU, oU, oU, oU] [])) _
        refine XS.iconst X0.here hx rfl (hb hby at_11) ?_
        show Steps p.tables e below (s₁.setTop (mkF m 12 #[iv p0, oJ q1, oS, oJ q2, oS, iv p3, iv (p0 &&& (3 : Int32)), oU, oU, oU, oU, oU, oU, oU, oU, oU, oU, oU, oU, oU, oU] [(.int (1 : Int32))])) _
        refine XS.goto X0.here hx rfl (pc0 := 12) (pc' := 16) rfl (hb hby at_12) (by decide) (by decide) ?_
        show Steps p.tables e below (s₁.setTop (mkF m 16 #[iv p0, oJ q1, oS, oJ q2, oS, iv p3, iv (p0 &&& (3 : Int32)), oU, oU, oU, oU, oU, oU, oU, oU, oU, oU, oU, oU, oU, oU] [(.int (1 : Int32))])) _
        exact k
    show Steps p.tables e below (s₁.setTop (mkF m 16 #[iv p0, oJ q1, oS, oJ q2, oS, iv p3, iv (p0 &&& (3 : Int32)), oU, oU, oU, oU, oU, oU, oU, oU, oU, oU, oU, oU, oU, oU] [(.int (if (p0 &&& (4 : Int32)) = (0 : Int32) then (0 : Int32) else (1 : Int32)))])) _
    refine XS.istore X0.here hx rfl (hb hby at_16) rfl (l' := #[iv p0, oJ q1, oS, oJ q2, oS, iv p3, iv (p0 &&& (3 : Int32)), iv (if (p0 &&& (4 : Int32)) = (0 : Int32) then (0 : Int32) else (1 : Int32)), oU, oU, oU, oU, oU, oU, oU, oU, oU, oU, oU, oU, oU]) rfl ?_
    show Steps p.tables e below (s₁.setTop (mkF m 18 #[iv p0, oJ q1, oS, oJ q2, oS, iv p3, iv (p0 &&& (3 : Int32)), iv (if (p0 &&& (4 : Int32)) = (0 : Int32) then (0 : Int32) else (1 : Int32)), oU, oU, oU, oU, oU, oU, oU, oU, oU, oU, oU, oU, oU] [])) _
    refine XS.iload X0.here hx rfl (hb hby at_18) rfl ?_
    show Steps p.tables e below (s₁.setTop (mkF m 20 #[iv p0, oJ q1, oS, oJ q2, oS, iv p3, iv (p0 &&& (3 : Int32)), iv (if (p0 &&& (4 : Int32)) = (0 : Int32) then (0 : Int32) else (1 : Int32)), oU, oU, oU, oU, oU, oU, oU, oU, oU, oU, oU, oU, oU] [(.int (if (p0 &&& (4 : Int32)) = (0 : Int32) then (0 : Int32) else (1 : Int32)))])) _
    refine (fun t (k : Steps p.tables e below (s₁.setTop (mkF m 37 #[iv p0, oJ q1, oS, oJ q2, oS, iv p3, iv (p0 &&& (3 : Int32)), iv (if (p0 &&& (4 : Int32)) = (0 : Int32) then (0 : Int32) else (1 : Int32)), oU, oU, oU, oU, oU, oU, oU, oU, oU, oU, oU, oU, oU] [(.int (if (if (p0 &&& (4 : Int32)) = (0 : Int32) then (0 : Int32) else (1 : Int32)) = (0 : Int32) then (((p3 &&& (2147483647 : Int32)) % (5 : Int32)) - (1 : Int32)) else p3))])) t) => (?_ : Steps p.tables e below _ t)) _ ?_
    · by_cases hc2 : (if (p0 &&& (4 : Int32)) = (0 : Int32) then (0 : Int32) else (1 : Int32)) = (0 : Int32)
      · simp only [if_pos hc2] at k
        refine XS.ifYes X0.here hx rfl (pc0 := 20) (pc' := 28) rfl (hb hby at_20) rfl ((if0 _ _).trans (teq hc2).1) (by decide) (by decide) ?_
        show Steps p.tables e below (s₁.setTop (mkF m 28 #[iv p0, oJ q1, oS, oJ q2, oS, iv p3, iv (p0 &&& (3 : Int32)), iv (if (p0 &&& (4 : Int32)) = (0 : Int32) then (0 : Int32) else (1 : Int32)), oU, oU, oU, oU, oU, oU, oU, oU, oU, oU, oU, oU, oU] [])) _
        refine XS.iload X0.here hx rfl (hb hby at_28) rfl ?_
        show Steps p.tables e below (s₁.setTop (mkF m 30 #[iv p0, oJ q1, oS, oJ q2, oS, iv p3, iv (p0 &&& (3 : Int32)), iv (if (p0 &&& (4 : Int32)) = (0 : Int32) then (0 : Int32) else (1 : Int32)), oU, oU, oU, oU, oU, oU, oU, oU, oU, oU, oU, oU, oU] [(.int p3)])) _
        refine X0.ldcInt hx hown (mvT hZ (hw _ (List.mem_of_getElem? (i := 0) rfl))) (g := (mkF m 30 #[iv p0, oJ q1, oS, oJ q2, oS, iv p3, iv (p0 &&& (3 : Int32)), iv (if (p0 &&& (4 : Int32)) = (0 : Int32) then (0 : Int32) else (1 : Int32)), oU, oU, oU, oU, oU, oU, oU, oU, oU, oU, oU, oU, oU] [(.int p3)])) rfl (hb hby at_30) _ ?_
        show Steps p.tables e below (s₁.setTop (mkF m 32 #[iv p0, oJ q1, oS, oJ q2, oS, iv p3, iv (p0 &&& (3 : Int32)), iv (if (p0 &&& (4 : Int32)) = (0 : Int32) then (0 : Int32) else (1 : Int32)), oU, oU, oU, oU, oU, oU, oU, oU, oU, oU, oU, oU, oU] [(.int (2147483647 : Int32)), (.int p3)])) _
        refine XS.iand X0.here hx rfl (hb hby at_32) rfl ?_
        show Steps p.tables e below (s₁.setTop (mkF m 33 #[iv p0, oJ q1, oS, oJ q2, oS, iv p3, iv (p0 &&& (3 : Int32)), iv (if (p0 &&& (4 : Int32)) = (0 : Int32) then (0 : Int32) else (1 : Int32)), oU, oU, oU, oU, oU, oU, oU, oU, oU, oU, oU, oU, oU] [(.int (p3 &&& (2147483647 : Int32)))])) _
        refine XS.iconst X0.here hx rfl (hb hby at_33) ?_
        show Steps p.tables e below (s₁.setTop (mkF m 34 #[iv p0, oJ q1, oS, oJ q2, oS, iv p3, iv (p0 &&& (3 : Int32)), iv (if (p0 &&& (4 : Int32)) = (0 : Int32) then (0 : Int32) else (1 : Int32)), oU, oU, oU, oU, oU, oU, oU, oU, oU, oU, oU, oU, oU] [(.int (5 : Int32)), (.int (p3 &&& (2147483647 : Int32)))])) _
        refine iremM X0 hx rfl (hb hby at_34) rfl (by decide) ?_
        show Steps p.tables e below (s₁.setTop (mkF m 35 #[iv p0, oJ q1, oS, oJ q2, oS, iv p3, iv (p0 &&& (3 : Int32)), iv (if (p0 &&& (4 : Int32)) = (0 : Int32) then (0 : Int32) else (1 : Int32)), oU, oU, oU, oU, oU, oU, oU, oU, oU, oU, oU, oU, oU] [(.int ((p3 &&& (2147483647 : Int32)) % (5 : Int32)))])) _
        refine XS.iconst X0.here hx rfl (hb hby at_35) ?_
        show Steps p.tables e below (s₁.setTop (mkF m 36 #[iv p0, oJ q1, oS, oJ q2, oS, iv p3, iv (p0 &&& (3 : Int32)), iv (if (p0 &&& (4 : Int32)) = (0 : Int32) then (0 : Int32) else (1 : Int32)), oU, oU, oU, oU, oU, oU, oU, oU, oU, oU, oU, oU, oU] [(.int (1 : Int32)), (.int ((p3 &&& (2147483647 : Int32)) % (5 : Int32)))])) _
        refine XS.isub X0.here hx rfl (hb hby at_36) rfl ?_
        show Steps p.tables e below (s₁.setTop (mkF m 37 #[iv p0, oJ q1, oS, oJ q2, oS, iv p3, iv (p0 &&& (3 : Int32)), iv (if (p0 &&& (4 : Int32)) = (0 : Int32) then (0 : Int32) else (1 : Int32)), oU, oU, oU, oU, oU, oU, oU, oU, oU, oU, oU, oU, oU] [(.int (((p3 &&& (2147483647 : Int32)) % (5 : Int32)) - (1 : Int32)))])) _
        exact k
      · simp only [if_neg hc2] at k
        refine XS.ifNo X0.here hx rfl (hb hby at_20) rfl ((if0 _ _).trans (feq hc2).1) ?_
        show Steps p.tables e below (s₁.setTop (mkF m 23 #[iv p0, oJ q1, oS, oJ q2, oS, iv p3, iv (p0 &&& (3 : Int32)), iv (if (p0 &&& (4 : Int32)) = (0 : Int32) then (0 : Int32) else (1 : Int32)), oU, oU, oU, oU, oU, oU, oU, oU, oU, oU, oU, oU, oU] [])) _
        refine XS.iload X0.here hx rfl (hb hby at_23) rfl ?_
        show Steps p.tables e below (s₁.setTop (mkF m 25 #[iv p0, oJ q1, oS, oJ q2, oS, iv p3, iv (p0 &&& (3 : Int32)), iv (if (p0 &&& (4 : Int32)) = (0 : Int32) then (0 : Int32) else (1 : Int32)), oU, oU, oU, oU, oU, oU, oU, oU, oU, oU, oU, oU, oU] [(.int p3)])) _
        refine XS.goto X0.here hx rfl (pc0 := 25) (pc' := 37) rfl (hb hby at_25) (by decide) (by decide) ?_
        show Steps p.tables e below (s₁.setTop (mkF m 37 #[iv p0, oJ q1, oS, oJ q2, oS, iv p3, iv (p0 &&& (3 : Int32)), iv (if (p0 &&& (4 : Int32)) = (0 : Int32) then (0 : Int32) else (1 : Int32)), oU, oU, oU, oU, oU, oU, oU, oU, oU, oU, oU, oU, oU] [(.int p3)])) _
        exact k
    show Steps p.tables e below (s₁.setTop (mkF m 37 #[iv p0, oJ q1, oS, oJ q2, oS, iv p3, iv (p0 &&& (3 : Int32)), iv (if (p0 &&& (4 : Int32)) = (0 : Int32) then (0 : Int32) else (1 : Int32)), oU, oU, oU, oU, oU, oU, oU, oU, oU, oU, oU, oU, oU] [(.int (if (if (p0 &&& (4 : Int32)) = (0 : Int32) then (0 : Int32) else (1 : Int32)) = (0 : Int32) then (((p3 &&& (2147483647 : Int32)) % (5 : Int32)) - (1 : Int32)) else p3))])) _
    refine XS.istore X0.here hx rfl (hb hby at_37) rfl (l' := #[iv p0, oJ q1, oS, oJ q2, oS, iv p3, iv (p0 &&& (3 : Int32)), iv (if (p0 &&& (4 : Int32)) = (0 : Int32) then (0 : Int32) else (1 : Int32)), iv (if (if (p0 &&& (4 : Int32)) = (0 : Int32) then (0 : Int32) else (1 : Int32)) = (0 : Int32) then (((p3 &&& (2147483647 : Int32)) % (5 : Int32)) - (1 : Int32)) else p3), oU, oU, oU, oU, oU, oU, oU, oU, oU, oU, oU, oU]) rfl ?_
    show Steps p.tables e below (s₁.setTop (mkF m 39 #[iv p0, oJ q1, oS, oJ q2, oS, iv p3, iv (p0 &&& (3 : Int32)), iv (if (p0 &&& (4 : Int32)) = (0 : Int32) then (0 : Int32) else (1 : Int32)), iv (if (if (p0 &&& (4 : Int32)) = (0 : Int32) then (0 : Int32) else (1 : Int32)) = (0 : Int32) then (((p3 &&& (2147483647 : Int32)) % (5 : Int32)) - (1 : Int32)) else p3), oU, oU, oU, oU, oU, oU, oU, oU, oU, oU, oU, oU] [])) _
    exact k
  generalize hqq : (if (if (p0 &&& (4 : Int32)) = (0 : Int32) then (0 : Int32) else (1 : Int32)) = (0 : Int32) then (((p3 &&& (2147483647 : Int32)) % (5 : Int32)) - (1 : Int32)) else p3) = qq
  show own_Go p e below _ (s₁.setTop (mkF m 39 #[iv p0, oJ q1, oS, oJ q2, oS, iv p3, iv (p0 &&& (3 : Int32)), iv (if (p0 &&& (4 : Int32)) = (0 : Int32) then (0 : Int32) else (1 : Int32)), iv qq, oU, oU, oU, oU, oU, oU, oU, oU, oU, oU, oU, oU] []))
  refine own_by (B := s₁.setTop (mkF m 51 #[iv p0, oJ q1, oS, oJ q2, oS, iv p3, iv (p0 &&& (3 : Int32)), iv (if (p0 &&& (4 : Int32)) = (0 : Int32) then (0 : Int32) else (1 : Int32)), iv qq, iv (((q1 &&& (2047 : Int64)).toInt32) % (1025 : Int32)), oU, oU, oU, oU, oU, oU, oU, oU, oU, oU, oU] [])) (fun t k => ?_) ?_
  · show Steps p.tables e below (s₁.setTop (mkF m 39 #[iv p0, oJ q1, oS, oJ q2, oS, iv p3, iv (p0 &&& (3 : Int32)), iv (if (p0 &&& (4 : Int32)) = (0 : Int32) then (0 : Int32) else (1 : Int32)), iv qq, oU, oU, oU, oU, oU, oU, oU, oU, oU, oU, oU, oU] [])) _
    refine XS.lloadN X0.here hx rfl (hb hby at_39) rfl ?_
    show Steps p.tables e below (s₁.setTop (mkF m 40 #[iv p0, oJ q1, oS, oJ q2, oS, iv p3, iv (p0 &&& (3 : Int32)), iv (if (p0 &&& (4 : Int32)) = (0 : Int32) then (0 : Int32) else (1 : Int32)), iv qq, oU, oU, oU, oU, oU, oU, oU, oU, oU, oU, oU, oU] [(.long q1)])) _
    refine X0.ldc2Long hx hown (mvT hZ (hw _ (List.mem_of_getElem? (i := 1) rfl))) (g := (mkF m 40 #[iv p0, oJ q1, oS, oJ q2, oS, iv p3, iv (p0 &&& (3 : Int32)), iv (if (p0 &&& (4 : Int32)) = (0 : Int32) then (0 : Int32) else (1 : Int32)), iv qq, oU, oU, oU, oU, oU, oU, oU, oU, oU, oU, oU, oU] [(.long q1)])) rfl (hb hby at_40) _ ?_
    show Steps p.tables e below (s₁.setTop (mkF m 43 #[iv p0, oJ q1, oS, oJ q2, oS, iv p3, iv (p0 &&& (3 : Int32)), iv (if (p0 &&& (4 : Int32)) = (0 : Int32) then (0 : Int32) else (1 : Int32)), iv qq, oU, oU, oU, oU, oU, oU, oU, oU, oU, oU, oU, oU] [(.long (2047 : Int64)), (.long q1)])) _
    refine XS.land X0.here hx rfl (hb hby at_43) rfl ?_
    show Steps p.tables e below (s₁.setTop (mkF m 44 #[iv p0, oJ q1, oS, oJ q2, oS, iv p3, iv (p0 &&& (3 : Int32)), iv (if (p0 &&& (4 : Int32)) = (0 : Int32) then (0 : Int32) else (1 : Int32)), iv qq, oU, oU, oU, oU, oU, oU, oU, oU, oU, oU, oU, oU] [(.long (q1 &&& (2047 : Int64)))])) _
    refine XS.l2i X0.here hx rfl (hb hby at_44) rfl ?_
    show Steps p.tables e below (s₁.setTop (mkF m 45 #[iv p0, oJ q1, oS, oJ q2, oS, iv p3, iv (p0 &&& (3 : Int32)), iv (if (p0 &&& (4 : Int32)) = (0 : Int32) then (0 : Int32) else (1 : Int32)), iv qq, oU, oU, oU, oU, oU, oU, oU, oU, oU, oU, oU, oU] [(.int ((q1 &&& (2047 : Int64)).toInt32))])) _
    refine XS.sipush X0.here hx rfl (hb hby at_45) ?_
    show Steps p.tables e below (s₁.setTop (mkF m 48 #[iv p0, oJ q1, oS, oJ q2, oS, iv p3, iv (p0 &&& (3 : Int32)), iv (if (p0 &&& (4 : Int32)) = (0 : Int32) then (0 : Int32) else (1 : Int32)), iv qq, oU, oU, oU, oU, oU, oU, oU, oU, oU, oU, oU, oU] [(.int (1025 : Int32)), (.int ((q1 &&& (2047 : Int64)).toInt32))])) _
    refine iremM X0 hx rfl (hb hby at_48) rfl (by decide) ?_
    show Steps p.tables e below (s₁.setTop (mkF m 49 #[iv p0, oJ q1, oS, oJ q2, oS, iv p3, iv (p0 &&& (3 : Int32)), iv (if (p0 &&& (4 : Int32)) = (0 : Int32) then (0 : Int32) else (1 : Int32)), iv qq, oU, oU, oU, oU, oU, oU, oU, oU, oU, oU, oU, oU] [(.int (((q1 &&& (2047 : Int64)).toInt32) % (1025 : Int32)))])) _
    refine XS.istore X0.here hx rfl (hb hby at_49) rfl (l' := #[iv p0, oJ q1, oS, oJ q2, oS, iv p3, iv (p0 &&& (3 : Int32)), iv (if (p0 &&& (4 : Int32)) = (0 : Int32) then (0 : Int32) else (1 : Int32)), iv qq, iv (((q1 &&& (2047 : Int64)).toInt32) % (1025 : Int32)), oU, oU, oU, oU, oU, oU, oU, oU, oU, oU, oU]) rfl ?_
    show Steps p.tables e below (s₁.setTop (mkF m 51 #[iv p0, oJ q1, oS, oJ q2, oS, iv p3, iv (p0 &&& (3 : Int32)), iv (if (p0 &&& (4 : Int32)) = (0 : Int32) then (0 : Int32) else (1 : Int32)), iv qq, iv (((q1 &&& (2047 : Int64)).toInt32) % (1025 : Int32)), oU, oU, oU, oU, oU, oU, oU, oU, oU, oU, oU] [])) _
    exact k
  generalize hr0 : (((q1 &&& (2047 : Int64)).toInt32) % (1025 : Int32)) = r0
  show own_Go p e below _ (s₁.setTop (mkF m 51 #[iv p0, oJ q1, oS, oJ q2, oS, iv p3, iv (p0 &&& (3 : Int32)), iv (if (p0 &&& (4 : Int32)) = (0 : Int32) then (0 : Int32) else (1 : Int32)), iv qq, iv r0, oU, oU, oU, oU, oU, oU, oU, oU, oU, oU, oU] []))
  refine own_by (B := s₁.setTop (mkF m 66 #[iv p0, oJ q1, oS, oJ q2, oS, iv p3, iv (p0 &&& (3 : Int32)), iv (if (p0 &&& (4 : Int32)) = (0 : Int32) then (0 : Int32) else (1 : Int32)), iv qq, iv r0, iv (((((q1.toUInt64 >>> ((16 : Int32) &&& 0x3f).toInt64.toUInt64).toInt64) &&& (2047 : Int64)).toInt32) % (1025 : Int32)), oU, oU, oU, oU, oU, oU, oU, oU, oU, oU] [])) (fun t k => ?_) ?_
  · show Steps p.tables e below (s₁.setTop (mkF m 51 #[iv p0, oJ q1, oS, oJ q2, oS, iv p3, iv (p0 &&& (3 : Int32)), iv (if (p0 &&& (4 : Int32)) = (0 : Int32) then (0 : Int32) else (1 : Int32)), iv qq, iv r0, oU, oU, oU, oU, oU, oU, oU, oU, oU, oU, oU] [])) _
    refine XS.lloadN X0.here hx rfl (hb hby at_51) rfl ?_
    show Steps p.tables e below (s₁.setTop (mkF m 52 #[iv p0, oJ q1, oS, oJ q2, oS, iv p3, iv (p0 &&& (3 : Int32)), iv (if (p0 &&& (4 : Int32)) = (0 : Int32) then (0 : Int32) else (1 : Int32)), iv qq, iv r0, oU, oU, oU, oU, oU, oU, oU, oU, oU, oU, oU] [(.long q1)])) _
    refine XS.bipush X0.here hx rfl (hb hby at_52) ?_
    show Steps p.tables e below (s₁.setTop (mkF m 54 #[iv p0, oJ q1, oS, oJ q2, oS, iv p3, iv (p0 &&& (3 : Int32)), iv (if (p0 &&& (4 : Int32)) = (0 : Int32) then (0 : Int32) else (1 : Int32)), iv qq, iv r0, oU, oU, oU, oU, oU, oU, oU, oU, oU, oU, oU] [(.int (16 : Int32)), (.long q1)])) _
    refine XS.lushr X0.here hx rfl (hb hby at_54) rfl ?_
    show Steps p.tables e below (s₁.setTop (mkF m 55 #[iv p0, oJ q1, oS, oJ q2, oS, iv p3, iv (p0 &&& (3 : Int32)), iv (if (p0 &&& (4 : Int32)) = (0 : Int32) then (0 : Int32) else (1 : Int32)), iv qq, iv r0, oU, oU, oU, oU, oU, oU, oU, oU, oU, oU, oU] [(.long ((q1.toUInt64 >>> ((16 : Int32) &&& 0x3f).toInt64.toUInt64).toInt64))])) _
    refine X0.ldc2Long hx hown (mvT hZ (hw _ (List.mem_of_getElem? (i := 1) rfl))) (g := (mkF m 55 #[iv p0, oJ q1, oS, oJ q2, oS, iv p3, iv (p0 &&& (3 : Int32)), iv (if (p0 &&& (4 : Int32)) = (0 : Int32) then (0 : Int32) else (1 : Int32)), iv qq, iv r0, oU, oU, oU, oU, oU, oU, oU, oU, oU, oU, oU] [(.long ((q1.toUInt64 >>> ((16 : Int32) &&& 0x3f).toInt64.toUInt64).toInt64))])) rfl (hb hby at_55) _ ?_
    show Steps p.tables e below (s₁.setTop (mkF m 58 #[iv p0, oJ q1, oS, oJ q2, oS, iv p3, iv (p0 &&& (3 : Int32)), iv (if (p0 &&& (4 : Int32)) = (0 : Int32) then (0 : Int32) else (1 : Int32)), iv qq, iv r0, oU, oU, oU, oU, oU, oU, oU, oU, oU, oU, oU] [(.long (2047 : Int64)), (.long ((q1.toUInt64 >>> ((16 : Int32) &&& 0x3f).toInt64.toUInt64).toInt64))])) _
    refine XS.land X0.here hx rfl (hb hby at_58) rfl ?_
    show Steps p.tables e below (s₁.setTop (mkF m 59 #[iv p0, oJ q1, oS, oJ q2, oS, iv p3, iv (p0 &&& (3 : Int32)), iv (if (p0 &&& (4 : Int32)) = (0 : Int32) then (0 : Int32) else (1 : Int32)), iv qq, iv r0, oU, oU, oU, oU, oU, oU, oU, oU, oU, oU, oU] [(.long (((q1.toUInt64 >>> ((16 : Int32) &&& 0x3f).toInt64.toUInt64).toInt64) &&& (2047 : Int64)))])) _
    refine XS.l2i X0.here hx rfl (hb hby at_59) rfl ?_
    show Steps p.tables e below (s₁.setTop (mkF m 60 #[iv p0, oJ q1, oS, oJ q2, oS, iv p3, iv (p0 &&& (3 : Int32)), iv (if (p0 &&& (4 : Int32)) = (0 : Int32) then (0 : Int32) else (1 : Int32)), iv qq, iv r0, oU, oU, oU, oU, oU, oU, oU, oU, oU, oU, oU] [(.int ((((q1.toUInt64 >>> ((16 : Int32) &&& 0x3f).toInt64.toUInt64).toInt64) &&& (2047 : Int64)).toInt32))])) _
    refine XS.sipush X0.here hx rfl (hb hby at_60) ?_
    show Steps p.tables e below (s₁.setTop (mkF m 63 #[iv p0, oJ q1, oS, oJ q2, oS, iv p3, iv (p0 &&& (3 : Int32)), iv (if (p0 &&& (4 : Int32)) = (0 : Int32) then (0 : Int32) else (1 : Int32)), iv qq, iv r0, oU, oU, oU, oU, oU, oU, oU, oU, oU, oU, oU] [(.int (1025 : Int32)), (.int ((((q1.toUInt64 >>> ((16 : Int32) &&& 0x3f).toInt64.toUInt64).toInt64) &&& (2047 : Int64)).toInt32))])) _
    refine iremM X0 hx rfl (hb hby at_63) rfl (by decide) ?_
    show Steps p.tables e below (s₁.setTop (mkF m 64 #[iv p0, oJ q1, oS, oJ q2, oS, iv p3, iv (p0 &&& (3 : Int32)), iv (if (p0 &&& (4 : Int32)) = (0 : Int32) then (0 : Int32) else (1 : Int32)), iv qq, iv r0, oU, oU, oU, oU, oU, oU, oU, oU, oU, oU, oU] [(.int (((((q1.toUInt64 >>> ((16 : Int32) &&& 0x3f).toInt64.toUInt64).toInt64) &&& (2047 : Int64)).toInt32) % (1025 : Int32)))])) _
    refine XS.istore X0.here hx rfl (hb hby at_64) rfl (l' := #[iv p0, oJ q1, oS, oJ q2, oS, iv p3, iv (p0 &&& (3 : Int32)), iv (if (p0 &&& (4 : Int32)) = (0 : Int32) then (0 : Int32) else (1 : Int32)), iv qq, iv r0, iv (((((q1.toUInt64 >>> ((16 : Int32) &&& 0x3f).toInt64.toUInt64).toInt64) &&& (2047 : Int64)).toInt32) % (1025 : Int32)), oU, oU, oU, oU, oU, oU, oU, oU, oU, oU]) rfl ?_
    show Steps p.tables e below (s₁.setTop (mkF m 66 #[iv p0, oJ q1, oS, oJ q2, oS, iv p3, iv (p0 &&& (3 : Int32)), iv (if (p0 &&& (4 : Int32)) = (0 : Int32) then (0 : Int32) else (1 : Int32)), iv qq, iv r0, iv (((((q1.toUInt64 >>> ((16 : Int32) &&& 0x3f).toInt64.toUInt64).toInt64) &&& (2047 : Int64)).toInt32) % (1025 : Int32)), oU, oU, oU, oU, oU, oU, oU, oU, oU, oU] [])) _
    exact k
  generalize hr1 : (((((q1.toUInt64 >>> ((16 : Int32) &&& 0x3f).toInt64.toUInt64).toInt64) &&& (2047 : Int64)).toInt32) % (1025 : Int32)) = r1
  show own_Go p e below _ (s₁.setTop (mkF m 66 #[iv p0, oJ q1, oS, oJ q2, oS, iv p3, iv (p0 &&& (3 : Int32)), iv (if (p0 &&& (4 : Int32)) = (0 : Int32) then (0 : Int32) else (1 : Int32)), iv qq, iv r0, iv r1, oU, oU, oU, oU, oU, oU, oU, oU, oU, oU] []))
  refine own_by (B := s₁.setTop (mkF m 81 #[iv p0, oJ q1, oS, oJ q2, oS, iv p3, iv (p0 &&& (3 : Int32)), iv (if (p0 &&& (4 : Int32)) = (0 : Int32) then (0 : Int32) else (1 : Int32)), iv qq, iv r0, iv r1, iv (((((q1.toUInt64 >>> ((32 : Int32) &&& 0x3f).toInt64.toUInt64).toInt64) &&& (2047 : Int64)).toInt32) % (1025 : Int32)), oU, oU, oU, oU, oU, oU, oU, oU, oU] [])) (fun t k => ?_) ?_
  · show Steps p.tables e below (s₁.setTop (mkF m 66 #[iv p0, oJ q1, oS, oJ q2, oS, iv p3, iv (p0 &&& (3 : Int32)), iv (if (p0 &&& (4 : Int32)) = (0 : Int32) then (0 : Int32) else (1 : Int32)), iv qq, iv r0, iv r1, oU, oU, oU, oU, oU, oU, oU, oU, oU, oU] [])) _
    refine XS.lloadN X0.here hx rfl (hb hby at_66) rfl ?_
    show Steps p.tables e below (s₁.setTop (mkF m 67 #[iv p0, oJ q1, oS, oJ q2, oS, iv p3, iv (p0 &&& (3 : Int32)), iv (if (p0 &&& (4 : Int32)) = (0 : Int32) then (0 : Int32) else (1 : Int32)), iv qq, iv r0, iv r1, oU, oU, oU, oU, oU, oU, oU, oU, oU, oU] [(.long q1)])) _
    refine XS.bipush X0.here hx rfl (hb hby at_67) ?_
    show Steps p.tables e below (s₁.setTop (mkF m 69 #[iv p0, oJ q1, oS, oJ q2, oS, iv p3, iv (p0 &&& (3 : Int32)), iv (if (p0 &&& (4 : Int32)) = (0 : Int32) then (0 : Int32) else (1 : Int32)), iv qq, iv r0, iv r1, oU, oU, oU, oU, oU, oU, oU, oU, oU, oU] [(.int (32 : Int32)), (.long q1)])) _
    refine XS.lushr X0.here hx rfl (hb hby at_69) rfl ?_
    show Steps p.tables e below (s₁.setTop (mkF m 70 #[iv p0, oJ q1, oS, oJ q2, oS, iv p3, iv (p0 &&& (3 : Int32)), iv (if (p0 &&& (4 : Int32)) = (0 : Int32) then (0 : Int32) else (1 : Int32)), iv qq, iv r0, iv r1, oU, oU, oU, oU, oU, oU, oU, oU, oU, oU] [(.long ((q1.toUInt64 >>> ((32 : Int32) &&& 0x3f).toInt64.toUInt64).toInt64))])) _
    refine X0.ldc2Long hx hown (mvT hZ (hw _ (List.mem_of_getElem? (i := 1) rfl))) (g := (mkF m 70 #[iv p0, oJ q1, oS, oJ q2, oS, iv p3, iv (p0 &&& (3 : Int32)), iv (if (p0 &&& (4 : Int32)) = (0 : Int32) then (0 : Int32) else (1 : Int32)), iv qq, iv r0, iv r1, oU, oU, oU, oU, oU, oU, oU, oU, oU, oU] [(.long ((q1.toUInt64 >>> ((32 : Int32) &&& 0x3f).toInt64.toUInt64).toInt64))])) rfl (hb hby at_70) _ ?_
    show Steps p.tables e below (s₁.setTop (mkF m 73 #[iv p0, oJ q1, oS, oJ q2, oS, iv p3, iv (p0 &&& (3 : Int32)), iv (if (p0 &&& (4 : Int32)) = (0 : Int32) then (0 : Int32) else (1 : Int32)), iv qq, iv r0, iv r1, oU, oU, oU, oU, oU, oU, oU, oU, oU, oU] [(.long (2047 : Int64)), (.long ((q1.toUInt64 >>> ((32 : Int32) &&& 0x3f).toInt64.toUInt64).toInt64))])) _
    refine XS.land X0.here hx rfl (hb hby at_73) rfl ?_
    show Steps p.tables e below (s₁.setTop (mkF m 74 #[iv p0, oJ q1, oS, oJ q2, oS, iv p3, iv (p0 &&& (3 : Int32)), iv (if (p0 &&& (4 : Int32)) = (0 : Int32) then (0 : Int32) else (1 : Int32)), iv qq, iv r0, iv r1, oU, oU, oU, oU, oU, oU, oU, oU, oU, oU] [(.long (((q1.toUInt64 >>> ((32 : Int32) &&& 0x3f).toInt64.toUInt64).toInt64) &&& (2047 : Int64)))])) _
    refine XS.l2i X0.here hx rfl (hb hby at_74) rfl ?_
    show Steps p.tables e below (s₁.setTop (mkF m 75 #[iv p0, oJ q1, oS, oJ q2, oS, iv p3, iv (p0 &&& (3 : Int32)), iv (if (p0 &&& (4 : Int32)) = (0 : Int32) then (0 : Int32) else (1 : Int32)), iv qq, iv r0, iv r1, oU, oU, oU, oU, oU, oU, oU, oU, oU, oU] [(.int ((((q1.toUInt64 >>> ((32 : Int32) &&& 0x3f).toInt64.toUInt64).toInt64) &&& (2047 : Int64)).toInt32))])) _
    refine XS.sipush X0.here hx rfl (hb hby at_75) ?_
    show Steps p.tables e below (s₁.setTop (mkF m 78 #[iv p0, oJ q1, oS, oJ q2, oS, iv p3, iv (p0 &&& (3 : Int32)), iv (if (p0 &&& (4 : Int32)) = (0 : Int32) then (0 : Int32) else (1 : Int32)), iv qq, iv r0, iv r1, oU, oU, oU, oU, oU, oU, oU, oU, oU, oU] [(.int (1025 : Int32)), (.int ((((q1.toUInt64 >>> ((32 : Int32) &&& 0x3f).toInt64.toUInt64).toInt64) &&& (2047 : Int64)).toInt32))])) _
    refine iremM X0 hx rfl (hb hby at_78) rfl (by decide) ?_
    show Steps p.tables e below (s₁.setTop (mkF m 79 #[iv p0, oJ q1, oS, oJ q2, oS, iv p3, iv (p0 &&& (3 : Int32)), iv (if (p0 &&& (4 : Int32)) = (0 : Int32) then (0 : Int32) else (1 : Int32)), iv qq, iv r0, iv r1, oU, oU, oU, oU, oU, oU, oU, oU, oU, oU] [(.int (((((q1.toUInt64 >>> ((32 : Int32) &&& 0x3f).toInt64.toUInt64).toInt64) &&& (2047 : Int64)).toInt32) % (1025 : Int32)))])) _
    refine XS.istore X0.here hx rfl (hb hby at_79) rfl (l' := #[iv p0, oJ q1, oS, oJ q2, oS, iv p3, iv (p0 &&& (3 : Int32)), iv (if (p0 &&& (4 : Int32)) = (0 : Int32) then (0 : Int32) else (1 : Int32)), iv qq, iv r0, iv r1, iv (((((q1.toUInt64 >>> ((32 : Int32) &&& 0x3f).toInt64.toUInt64).toInt64) &&& (2047 : Int64)).toInt32) % (1025 : Int32)), oU, oU, oU, oU, oU, oU, oU, oU, oU]) rfl ?_
    show Steps p.tables e below (s₁.setTop (mkF m 81 #[iv p0, oJ q1, oS, oJ q2, oS, iv p3, iv (p0 &&& (3 : Int32)), iv (if (p0 &&& (4 : Int32)) = (0 : Int32) then (0 : Int32) else (1 : Int32)), iv qq, iv r0, iv r1, iv (((((q1.toUInt64 >>> ((32 : Int32) &&& 0x3f).toInt64.toUInt64).toInt64) &&& (2047 : Int64)).toInt32) % (1025 : Int32)), oU, oU, oU, oU, oU, oU, oU, oU, oU] [])) _
    exact k
  generalize hr2 : (((((q1.toUInt64 >>> ((32 : Int32) &&& 0x3f).toInt64.toUInt64).toInt64) &&& (2047 : Int64)).toInt32) % (1025 : Int32)) = r2
  show own_Go p e below _ (s₁.setTop (mkF m 81 #[iv p0, oJ q1, oS, oJ q2, oS, iv p3, iv (p0 &&& (3 : Int32)), iv (if (p0 &&& (4 : Int32)) = (0 : Int32) then (0 : Int32) else (1 : Int32)), iv qq, iv r0, iv r1, iv r2, oU, oU, oU, oU, oU, oU, oU, oU, oU] []))
  refine own_by (B := s₁.setTop (mkF m 86 #[iv p0, oJ q1, oS, oJ q2, oS, iv p3, iv (p0 &&& (3 : Int32)), iv (if (p0 &&& (4 : Int32)) = (0 : Int32) then (0 : Int32) else (1 : Int32)), iv qq, iv r0, iv r1, iv r2, iv ((q2.toInt32).toInt16.toInt32), oU, oU, oU, oU, oU, oU, oU, oU] [])) (fun t k => ?_) ?_
  · show Steps p.tables e below (s₁.setTop (mkF m 81 #[iv p0, oJ q1, oS, oJ q2, oS, iv p3, iv (p0 &&& (3 : Int32)), iv (if (p0 &&& (4 : Int32)) = (0 : Int32) then (0 : Int32) else (1 : Int32)), iv qq, iv r0, iv r1, iv r2, oU, oU, oU, oU, oU, oU, oU, oU, oU] [])) _
    refine XS.lloadN X0.here hx rfl (hb hby at_81) rfl ?_
    show Steps p.tables e below (s₁.setTop (mkF m 82 #[iv p0, oJ q1, oS, oJ q2, oS, iv p3, iv (p0 &&& (3 : Int32)), iv (if (p0 &&& (4 : Int32)) = (0 : Int32) then (0 : Int32) else (1 : Int32)), iv qq, iv r0, iv r1, iv r2, oU, oU, oU, oU, oU, oU, oU, oU, oU] [(.long q2)])) _
    refine XS.l2i X0.here hx rfl (hb hby at_82) rfl ?_
    show Steps p.tables e below (s₁.setTop (mkF m 83 #[iv p0, oJ q1, oS, oJ q2, oS, iv p3, iv (p0 &&& (3 : Int32)), iv (if (p0 &&& (4 : Int32)) = (0 : Int32) then (0 : Int32) else (1 : Int32)), iv qq, iv r0, iv r1, iv r2, oU, oU, oU, oU, oU, oU, oU, oU, oU] [(.int (q2.toInt32))])) _
    refine XS.i2s X0.here hx rfl (hb hby at_83) rfl ?_
    show Steps p.tables e below (s₁.setTop (mkF m 84 #[iv p0, oJ q1, oS, oJ q2, oS, iv p3, iv (p0 &&& (3 : Int32)), iv (if (p0 &&& (4 : Int32)) = (0 : Int32) then (0 : Int32) else (1 : Int32)), iv qq, iv r0, iv r1, iv r2, oU, oU, oU, oU, oU, oU, oU, oU, oU] [(.int ((q2.toInt32).toInt16.toInt32))])) _
    refine XS.istore X0.here hx rfl (hb hby at_84) rfl (l' := #[iv p0, oJ q1, oS, oJ q2, oS, iv p3, iv (p0 &&& (3 : Int32)), iv (if (p0 &&& (4 : Int32)) = (0 : Int32) then (0 : Int32) else (1 : Int32)), iv qq, iv r0, iv r1, iv r2, iv ((q2.toInt32).toInt16.toInt32), oU, oU, oU, oU, oU, oU, oU, oU]) rfl ?_
    show Steps p.tables e below (s₁.setTop (mkF m 86 #[iv p0, oJ q1, oS, oJ q2, oS, iv p3, iv (p0 &&& (3 : Int32)), iv (if (p0 &&& (4 : Int32)) = (0 : Int32) then (0 : Int32) else (1 : Int32)), iv qq, iv r0, iv r1, iv r2, iv ((q2.toInt32).toInt16.toInt32), oU, oU, oU, oU, oU, oU, oU, oU] [])) _
    exact k
  generalize hw0 : ((q2.toInt32).toInt16.toInt32) = w0
  show own_Go p e below _ (s₁.setTop (mkF m 86 #[iv p0, oJ q1, oS, oJ q2, oS, iv p3, iv (p0 &&& (3 : Int32)), iv (if (p0 &&& (4 : Int32)) = (0 : Int32) then (0 : Int32) else (1 : Int32)), iv qq, iv r0, iv r1, iv r2, iv w0, oU, oU, oU, oU, oU, oU, oU, oU] []))
  refine own_by (B := s₁.setTop (mkF m 94 #[iv p0, oJ q1, oS, oJ q2, oS, iv p3, iv (p0 &&& (3 : Int32)), iv (if (p0 &&& (4 : Int32)) = (0 : Int32) then (0 : Int32) else (1 : Int32)), iv qq, iv r0, iv r1, iv r2, iv w0, iv ((((q2.toUInt64 >>> ((16 : Int32) &&& 0x3f).toInt64.toUInt64).toInt64).toInt32).toInt16.toInt32), oU, oU, oU, oU, oU, oU, oU] [])) (fun t k => ?_) ?_
  · show Steps p.tables e below (s₁.setTop (mkF m 86 #[iv p0, oJ q1, oS, oJ q2, oS, iv p3, iv (p0 &&& (3 : Int32)), iv (if (p0 &&& (4 : Int32)) = (0 : Int32) then (0 : Int32) else (1 : Int32)), iv qq, iv r0, iv r1, iv r2, iv w0, oU, oU, oU, oU, oU, oU, oU, oU] [])) _
    refine XS.lloadN X0.here hx rfl (hb hby at_86) rfl ?_
    show Steps p.tables e below (s₁.setTop (mkF m 87 #[iv p0, oJ q1, oS, oJ q2, oS, iv p3, iv (p0 &&& (3 : Int32)), iv (if (p0 &&& (4 : Int32)) = (0 : Int32) then (0 : Int32) else (1 : Int32)), iv qq, iv r0, iv r1, iv r2, iv w0, oU, oU, oU, oU, oU, oU, oU, oU] [(.long q2)])) _
    refine XS.bipush X0.here hx rfl (hb hby at_87) ?_
    show Steps p.tables e below (s₁.setTop (mkF m 89 #[iv p0, oJ q1, oS, oJ q2, oS, iv p3, iv (p0 &&& (3 : Int32)), iv (if (p0 &&& (4 : Int32)) = (0 : Int32) then (0 : Int32) else (1 : Int32)), iv qq, iv r0, iv r1, iv r2, iv w0, oU, oU, oU, oU, oU, oU, oU, oU] [(.int (16 : Int32)), (.long q2)])) _
    refine XS.lushr X0.here hx rfl (hb hby at_89) rfl ?_
    show Steps p.tables e below (s₁.setTop (mkF m 90 #[iv p0, oJ q1, oS, oJ q2, oS, iv p3, iv (p0 &&& (3 : Int32)), iv (if (p0 &&& (4 : Int32)) = (0 : Int32) then (0 : Int32) else (1 : Int32)), iv qq, iv r0, iv r1, iv r2, iv w0, oU, oU, oU, oU, oU, oU, oU, oU] [(.long ((q2.toUInt64 >>> ((16 : Int32) &&& 0x3f).toInt64.toUInt64).toInt64))])) _
    refine XS.l2i X0.here hx rfl (hb hby at_90) rfl ?_
    show Steps p.tables e below (s₁.setTop (mkF m 91 #[iv p0, oJ q1, oS, oJ q2, oS, iv p3, iv (p0 &&& (3 : Int32)), iv (if (p0 &&& (4 : Int32)) = (0 : Int32) then (0 : Int32) else (1 : Int32)), iv qq, iv r0, iv r1, iv r2, iv w0, oU, oU, oU, oU, oU, oU, oU, oU] [(.int (((q2.toUInt64 >>> ((16 : Int32) &&& 0x3f).toInt64.toUInt64).toInt64).toInt32))])) _
    refine XS.i2s X0.here hx rfl (hb hby at_91) rfl ?_
    show Steps p.tables e below (s₁.setTop (mkF m 92 #[iv p0, oJ q1, oS, oJ q2, oS, iv p3, iv (p0 &&& (3 : Int32)), iv (if (p0 &&& (4 : Int32)) = (0 : Int32) then (0 : Int32) else (1 : Int32)), iv qq, iv r0, iv r1, iv r2, iv w0, oU, oU, oU, oU, oU, oU, oU, oU] [(.int ((((q2.toUInt64 >>> ((16 : Int32) &&& 0x3f).toInt64.toUInt64).toInt64).toInt32).toInt16.toInt32))])) _
    refine XS.istore X0.here hx rfl (hb hby at_92) rfl (l' := #[iv p0, oJ q1, oS, oJ q2, oS, iv p3, iv (p0 &&& (3 : Int32)), iv (if (p0 &&& (4 : Int32)) = (0 : Int32) then (0 : Int32) else (1 : Int32)), iv qq, iv r0, iv r1, iv r2, iv w0, iv ((((q2.toUInt64 >>> ((16 : Int32) &&& 0x3f).toInt64.toUInt64).toInt64).toInt32).toInt16.toInt32), oU, oU, oU, oU, oU, oU, oU]) rfl ?_
    show Steps p.tables e below (s₁.setTop (mkF m 94 #[iv p0, oJ q1, oS, oJ q2, oS, iv p3, iv (p0 &&& (3 : Int32)), iv (if (p0 &&& (4 : Int32)) = (0 : Int32) then (0 : Int32) else (1 : Int32)), iv qq, iv r0, iv r1, iv r2, iv w0, iv ((((q2.toUInt64 >>> ((16 : Int32) &&& 0x3f).toInt64.toUInt64).toInt64).toInt32).toInt16.toInt32), oU, oU, oU, oU, oU, oU, oU] [])) _
    exact k
  generalize hw1 : ((((q2.toUInt64 >>> ((16 : Int32) &&& 0x3f).toInt64.toUInt64).toInt64).toInt32).toInt16.toInt32) = w1
  show own_Go p e below _ (s₁.setTop (mkF m 94 #[iv p0, oJ q1, oS, oJ q2, oS, iv p3, iv (p0 &&& (3 : Int32)), iv (if (p0 &&& (4 : Int32)) = (0 : Int32) then (0 : Int32) else (1 : Int32)), iv qq, iv r0, iv r1, iv r2, iv w0, iv w1, oU, oU, oU, oU, oU, oU, oU] []))
  refine own_by (B := s₁.setTop (mkF m 102 #[iv p0, oJ q1, oS, oJ q2, oS, iv p3, iv (p0 &&& (3 : Int32)), iv (if (p0 &&& (4 : Int32)) = (0 : Int32) then (0 : Int32) else (1 : Int32)), iv qq, iv r0, iv r1, iv r2, iv w0, iv w1, iv ((((q2.toUInt64 >>> ((32 : Int32) &&& 0x3f).toInt64.toUInt64).toInt64).toInt32).toInt16.toInt32), oU, oU, oU, oU, oU, oU] [])) (fun t k => ?_) ?_
  · show Steps p.tables e below (s₁.setTop (mkF m 94 #[iv p0, oJ q1, oS, oJ q2, oS, iv p3, iv (p0 &&& (3 : Int32)), iv (if (p0 &&& (4 : Int32)) = (0 : Int32) then (0 : Int32) else (1 : Int32)), iv qq, iv r0, iv r1, iv r2, iv w0, iv w1, oU, oU, oU, oU, oU, oU, oU] [])) _
    refine XS.lloadN X0.here hx rfl (hb hby at_94) rfl ?_
    show Steps p.tables e below (s₁.setTop (mkF m 95 #[iv p0, oJ q1, oS, oJ q2, oS, iv p3, iv (p0 &&& (3 : Int32)), iv (if (p0 &&& (4 : Int32)) = (0 : Int32) then (0 : Int32) else (1 : Int32)), iv qq, iv r0, iv r1, iv r2, iv w0, iv w1, oU, oU, oU, oU, oU, oU, oU] [(.long q2)])) _
    refine XS.bipush X0.here hx rfl (hb hby at_95) ?_
    show Steps p.tables e below (s₁.setTop (mkF m 97 #[iv p0, oJ q1, oS, oJ q2, oS, iv p3, iv (p0 &&& (3 : Int32)), iv (if (p0 &&& (4 : Int32)) = (0 : Int32) then (0 : Int32) else (1 : Int32)), iv qq, iv r0, iv r1, iv r2, iv w0, iv w1, oU, oU, oU, oU, oU, oU, oU] [(.int (32 : Int32)), (.long q2)])) _
    refine XS.lushr X0.here hx rfl (hb hby at_97) rfl ?_
    show Steps p.tables e below (s₁.setTop (mkF m 98 #[iv p0, oJ q1, oS, oJ q2, oS, iv p3, iv (p0 &&& (3 : Int32)), iv (if (p0 &&& (4 : Int32)) = (0 : Int32) then (0 : Int32) else (1 : Int32)), iv qq, iv r0, iv r1, iv r2, iv w0, iv w1, oU, oU, oU, oU, oU, oU, oU] [(.long ((q2.toUInt64 >>> ((32 : Int32) &&& 0x3f).toInt64.toUInt64).toInt64))])) _
    refine XS.l2i X0.here hx rfl (hb hby at_98) rfl ?_
    show Steps p.tables e below (s₁.setTop (mkF m 99 #[iv p0, oJ q1, oS, oJ q2, oS, iv p3, iv (p0 &&& (3 : Int32)), iv (if (p0 &&& (4 : Int32)) = (0 : Int32) then (0 : Int32) else (1 : Int32)), iv qq, iv r0, iv r1, iv r2, iv w0, iv w1, oU, oU, oU, oU, oU, oU, oU] [(.int (((q2.toUInt64 >>> ((32 : Int32) &&& 0x3f).toInt64.toUInt64).toInt64).toInt32))])) _
    refine XS.i2s X0.here hx rfl (hb hby at_99) rfl ?_
    show Steps p.tables e below (s₁.setTop (mkF m 100 #[iv p0, oJ q1, oS, oJ q2, oS, iv p3, iv (p0 &&& (3 : Int32)), iv (if (p0 &&& (4 : Int32)) = (0 : Int32) then (0 : Int32) else (1 : Int32)), iv qq, iv r0, iv r1, iv r2, iv w0, iv w1, oU, oU, oU, oU, oU, oU, oU] [(.int ((((q2.toUInt64 >>> ((32 : Int32) &&& 0x3f).toInt64.toUInt64).toInt64).toInt32).toInt16.toInt32))])) _
    refine XS.istore X0.here hx rfl (hb hby at_100) rfl (l' := #[iv p0, oJ q1, oS, oJ q2, oS, iv p3, iv (p0 &&& (3 : Int32)), iv (if (p0 &&& (4 : Int32)) = (0 : Int32) then (0 : Int32) else (1 : Int32)), iv qq, iv r0, iv r1, iv r2, iv w0, iv w1, iv ((((q2.toUInt64 >>> ((32 : Int32) &&& 0x3f).toInt64.toUInt64).toInt64).toInt32).toInt16.toInt32), oU, oU, oU, oU, oU, oU]) rfl ?_
    show Steps p.tables e below (s₁.setTop (mkF m 102 #[iv p0, oJ q1, oS, oJ q2, oS, iv p3, iv (p0 &&& (3 : Int32)), iv (if (p0 &&& (4 : Int32)) = (0 : Int32) then (0 : Int32) else (1 : Int32)), iv qq, iv r0, iv r1, iv r2, iv w0, iv w1, iv ((((q2.toUInt64 >>> ((32 : Int32) &&& 0x3f).toInt64.toUInt64).toInt64).toInt32).toInt16.toInt32), oU, oU, oU, oU, oU, oU] [])) _
    exact k
  generalize hw2 : ((((q2.toUInt64 >>> ((32 : Int32) &&& 0x3f).toInt64.toUInt64).toInt64).toInt32).toInt16.toInt32) = w2
  show own_Go p e below _ (s₁.setTop (mkF m 102 #[iv p0, oJ q1, oS, oJ q2, oS, iv p3, iv (p0 &&& (3 : Int32)), iv (if (p0 &&& (4 : Int32)) = (0 : Int32) then (0 : Int32) else (1 : Int32)), iv qq, iv r0, iv r1, iv r2, iv w0, iv w1, iv w2, oU, oU, oU, oU, oU, oU] []))
  refine own_by (B := s₁.setTop (mkF m 104 #[iv p0, oJ q1, oS, oJ q2, oS, iv p3, iv (p0 &&& (3 : Int32)), iv (if (p0 &&& (4 : Int32)) = (0 : Int32) then (0 : Int32) else (1 : Int32)), iv qq, iv r0, iv r1, iv r2, iv w0, iv w1, iv w2, oU, oU, oU, oU, oU, oU] [(.int (p0 &&& (3 : Int32)))])) (fun t k => ?_) ?_
  · show Steps p.tables e below (s₁.setTop (mkF m 102 #[iv p0, oJ q1, oS, oJ q2, oS, iv p3, iv (p0 &&& (3 : Int32)), iv (if (p0 &&& (4 : Int32)) = (0 : Int32) then (0 : Int32) else (1 : Int32)), iv qq, iv r0, iv r1, iv r2, iv w0, iv w1, iv w2, oU, oU, oU, oU, oU, oU] [])) _
    refine XS.iload X0.here hx rfl (hb hby at_102) rfl ?_
    show Steps p.tables e below (s₁.setTop (mkF m 104 #[iv p0, oJ q1, oS, oJ q2, oS, iv p3, iv (p0 &&& (3 : Int32)), iv (if (p0 &&& (4 : Int32)) = (0 : Int32) then (0 : Int32) else (1 : Int32)), iv qq, iv r0, iv r1, iv r2, iv w0, iv w1, iv w2, oU, oU, oU, oU, oU, oU] [(.int (p0 &&& (3 : Int32)))])) _
    exact k
  rcases own_m3 p0 with hk | hk | hk | hk
  · simp only [hk]
    show own_Go p e below _ (s₁.setTop (mkF m 104 #[iv p0, oJ q1, oS, oJ q2, oS, iv p3, iv (0 : Int32), iv (if (p0 &&& (4 : Int32)) = (0 : Int32) then (0 : Int32) else (1 : Int32)), iv qq, iv r0, iv r1, iv r2, iv w0, iv w1, iv w2, oU, oU, oU, oU, oU, oU] [(.int (0 : Int32))]))
    have br0 : r0.toInt.natAbs ≤ 1024 := by rw [← hr0]; exact own_r _
    have bw0 : w0.toInt.natAbs ≤ 32768 := by rw [← hw0]; exact own_w _
    have br1 : r1.toInt.natAbs ≤ 1024 := by rw [← hr1]; exact own_r _
    have bw1 : w1.toInt.natAbs ≤ 32768 := by rw [← hw1]; exact own_w _
    have br2 : r2.toInt.natAbs ≤ 1024 := by rw [← hr2]; exact own_r _
    have bw2 : w2.toInt.natAbs ≤ 32768 := by rw [← hw2]; exact own_w _
    obtain ⟨T3, h3, k3, X3, e3, E3, A3, st3⟩ := newP X0 hx hZ (hw _ (List.mem_of_getElem? (i := 2) rfl)) e0 (g := (mkF m 104 #[iv p0, oJ q1, oS, oJ q2, oS, iv p3, iv (0 : Int32), iv (if (p0 &&& (4 : Int32)) = (0 : Int32) then (0 : Int32) else (1 : Int32)), iv qq, iv r0, iv r1, iv r2, iv w0, iv w1, iv w2, oU, oU, oU, oU, oU, oU] [(.int (0 : Int32))])) rfl (hb hby at_104) rfl (by decide) (cap := 0) (by decide) (by decide) (by decide) (by decide)
    obtain ⟨b3, g3⟩ : ∃ z, z = h0.size := ⟨_, rfl⟩
    rw [← g3] at A3 st3
    have g_b3 : n0 ≤ b3 := Nat.le_trans Z0 (Nat.le_of_eq g3.symm)
    replace Z0 := Nat.le_trans Z0 E3.1
    have V_b3 : Arv Z h3 b3 k3 .double (0 : Int32) [] (.double (0 : UInt64)) := Arv.new A3 (by decide)
    refine own_by st3 ?_
    show own_Go p e below _ (T3.setTop (mkF m 106 #[iv p0, oJ q1, oS, oJ q2, oS, iv p3, iv (0 : Int32), iv (if (p0 &&& (4 : Int32)) = (0 : Int32) then (0 : Int32) else (1 : Int32)), iv qq, iv r0, iv r1, iv r2, iv w0, iv w1, iv w2, oU, oU, oU, oU, oU, oU] [(.ref b3)]))
    refine own_by (B := T3.setTop (mkF m 110 #[iv p0, oJ q1, oS, oJ q2, oS, iv p3, iv (0 : Int32), iv (if (p0 &&& (4 : Int32)) = (0 : Int32) then (0 : Int32) else (1 : Int32)), iv qq, iv r0, iv r1, iv r2, iv w0, iv w1, iv w2, rv b3, oU, oU, oU, oU, oU] [(.int (0 : Int32))])) (fun t k => ?_) ?_
    · show Steps p.tables e below (T3.setTop (mkF m 106 #[iv p0, oJ q1, oS, oJ q2, oS, iv p3, iv (0 : Int32), iv (if (p0 &&& (4 : Int32)) = (0 : Int32) then (0 : Int32) else (1 : Int32)), iv qq, iv r0, iv r1, iv r2, iv w0, iv w1, iv w2, oU, oU, oU, oU, oU, oU] [(.ref b3)])) _
      refine XS.astore X3.here hx rfl (hb hby at_106) rfl rfl (l' := #[iv p0, oJ q1, oS, oJ q2, oS, iv p3, iv (0 : Int32), iv (if (p0 &&& (4 : Int32)) = (0 : Int32) then (0 : Int32) else (1 : Int32)), iv qq, iv r0, iv r1, iv r2, iv w0, iv w1, iv w2, rv b3, oU, oU, oU, oU, oU]) rfl ?_
      show Steps p.tables e below (T3.setTop (mkF m 108 #[iv p0, oJ q1, oS, oJ q2, oS, iv p3, iv (0 : Int32), iv (if (p0 &&& (4 : Int32)) = (0 : Int32) then (0 : Int32) else (1 : Int32)), iv qq, iv r0, iv r1, iv r2, iv w0, iv w1, iv w2, rv b3, oU, oU, oU, oU, oU] [])) _
      refine XS.iload X3.here hx rfl (hb hby at_108) rfl ?_
      show Steps p.tables e below (T3.setTop (mkF m 110 #[iv p0, oJ q1, oS, oJ q2, oS, iv p3, iv (0 : Int32), iv (if (p0 &&& (4 : Int32)) = (0 : Int32) then (0 : Int32) else (1 : Int32)), iv qq, iv r0, iv r1, iv r2, iv w0, iv w1, iv w2, rv b3, oU, oU, oU, oU, oU] [(.int (0 : Int32))])) _
      exact k
    obtain ⟨T4, h4, k4, X4, e4, E4, A4, st4⟩ := newP X3 hx hZ (hw _ (List.mem_of_getElem? (i := 2) rfl)) e3 (g := (mkF m 110 #[iv p0, oJ q1, oS, oJ q2, oS, iv p3, iv (0 : Int32), iv (if (p0 &&& (4 : Int32)) = (0 : Int32) then (0 : Int32) else (1 : Int32)), iv qq, iv r0, iv r1, iv r2, iv w0, iv w1, iv w2, rv b3, oU, oU, oU, oU, oU] [(.int (0 : Int32))])) rfl (hb hby at_110) rfl (by decide) (cap := 0) (by decide) (by decide) (by decide) (by decide)
    obtain ⟨b4, g4⟩ : ∃ z, z = h3.size := ⟨_, rfl⟩
    rw [← g4] at A4 st4
    have g_b4 : n0 ≤ b4 := Nat.le_trans Z0 (Nat.le_of_eq g4.symm)
    have ne_b3_b4 : b3 ≠ b4 := Nat.ne_of_lt (Nat.lt_of_lt_of_le V_b3.lt (Nat.le_of_eq g4.symm))
    replace V_b3 := V_b3.ext E4
    replace Z0 := Nat.le_trans Z0 E4.1
    have V_b4 : Arv Z h4 b4 k4 .double (0 : Int32) [] (.double (0 : UInt64)) := Arv.new A4 (by decide)
    refine own_by st4 ?_
    show own_Go p e below _ (T4.setTop (mkF m 112 #[iv p0, oJ q1, oS, oJ q2, oS, iv p3, iv (0 : Int32), iv (if (p0 &&& (4 : Int32)) = (0 : Int32) then (0 : Int32) else (1 : Int32)), iv qq, iv r0, iv r1, iv r2, iv w0, iv w1, iv w2, rv b3, oU, oU, oU, oU, oU] [(.ref b4)]))
    refine own_by (B := T4.setTop (mkF m 264 #[iv p0, oJ q1, oS, oJ q2, oS, iv p3, iv (0 : Int32), iv (if (p0 &&& (4 : Int32)) = (0 : Int32) then (0 : Int32) else (1 : Int32)), iv qq, iv r0, iv r1, iv r2, iv w0, iv w1, iv w2, rv b3, rv b4, oJ (0 : Int64), oS, oU, oU] [(.int qq), (.ref b4), (.ref b3)])) (fun t k => ?_) ?_
    · show Steps p.tables e below (T4.setTop (mkF m 112 #[iv p0, oJ q1, oS, oJ q2, oS, iv p3, iv (0 : Int32), iv (if (p0 &&& (4 : Int32)) = (0 : Int32) then (0 : Int32) else (1 : Int32)), iv qq, iv r0, iv r1, iv r2, iv w0, iv w1, iv w2, rv b3, oU, oU, oU, oU, oU] [(.ref b4)])) _
      refine XS.astore X4.here hx rfl (hb hby at_112) rfl rfl (l' := #[iv p0, oJ q1, oS, oJ q2, oS, iv p3, iv (0 : Int32), iv (if (p0 &&& (4 : Int32)) = (0 : Int32) then (0 : Int32) else (1 : Int32)), iv qq, iv r0, iv r1, iv r2, iv w0, iv w1, iv w2, rv b3, rv b4, oU, oU, oU, oU]) rfl ?_
      show Steps p.tables e below (T4.setTop (mkF m 114 #[iv p0, oJ q1, oS, oJ q2, oS, iv p3, iv (0 : Int32), iv (if (p0 &&& (4 : Int32)) = (0 : Int32) then (0 : Int32) else (1 : Int32)), iv qq, iv r0, iv r1, iv r2, iv w0, iv w1, iv w2, rv b3, rv b4, oU, oU, oU, oU] [])) _
      refine XS.iload X4.here hx rfl (hb hby at_114) rfl ?_
      show Steps p.tables e below (T4.setTop (mkF m 116 #[iv p0, oJ q1, oS, oJ q2, oS, iv p3, iv (0 : Int32), iv (if (p0 &&& (4 : Int32)) = (0 : Int32) then (0 : Int32) else (1 : Int32)), iv qq, iv r0, iv r1, iv r2, iv w0, iv w1, iv w2, rv b3, rv b4, oU, oU, oU, oU] [(.int (0 : Int32))])) _
      refine XS.ifYes X4.here hx rfl (pc0 := 116) (pc' := 137) rfl (hb hby at_116) rfl ((if0 _ _).trans (flt (by decide : ¬ ((0 : Int32) < (0 : Int32)))).2.2.2) (by decide) (by decide) ?_
      show Steps p.tables e below (T4.setTop (mkF m 137 #[iv p0, oJ q1, oS, oJ q2, oS, iv p3, iv (0 : Int32), iv (if (p0 &&& (4 : Int32)) = (0 : Int32) then (0 : Int32) else (1 : Int32)), iv qq, iv r0, iv r1, iv r2, iv w0, iv w1, iv w2, rv b3, rv b4, oU, oU, oU, oU] [])) _
      refine XS.iload X4.here hx rfl (hb hby at_137) rfl ?_
      show Steps p.tables e below (T4.setTop (mkF m 139 #[iv p0, oJ q1, oS, oJ q2, oS, iv p3, iv (0 : Int32), iv (if (p0 &&& (4 : Int32)) = (0 : Int32) then (0 : Int32) else (1 : Int32)), iv qq, iv r0, iv r1, iv r2, iv w0, iv w1, iv w2, rv b3, rv b4, oU, oU, oU, oU] [(.int (0 : Int32))])) _
      refine XS.iconst X4.here hx rfl (hb hby at_139) ?_
      show Steps p.tables e below (T4.setTop (mkF m 140 #[iv p0, oJ q1, oS, oJ q2, oS, iv p3, iv (0 : Int32), iv (if (p0 &&& (4 : Int32)) = (0 : Int32) then (0 : Int32) else (1 : Int32)), iv qq, iv r0, iv r1, iv r2, iv w0, iv w1, iv w2, rv b3, rv b4, oU, oU, oU, oU] [(.int (1 : Int32)), (.int (0 : Int32))])) _
      refine XS.icmpYes X4.here hx rfl (pc0 := 140) (pc' := 161) rfl (hb hby at_140) rfl (flt (by decide : ¬ ((1 : Int32) < (0 : Int32)))).2.2.2 (by decide) (by decide) ?_
      show Steps p.tables e below (T4.setTop (mkF m 161 #[iv p0, oJ q1, oS, oJ q2, oS, iv p3, iv (0 : Int32), iv (if (p0 &&& (4 : Int32)) = (0 : Int32) then (0 : Int32) else (1 : Int32)), iv qq, iv r0, iv r1, iv r2, iv w0, iv w1, iv w2, rv b3, rv b4, oU, oU, oU, oU] [])) _
      refine XS.iload X4.here hx rfl (hb hby at_161) rfl ?_
      show Steps p.tables e below (T4.setTop (mkF m 163 #[iv p0, oJ q1, oS, oJ q2, oS, iv p3, iv (0 : Int32), iv (if (p0 &&& (4 : Int32)) = (0 : Int32) then (0 : Int32) else (1 : Int32)), iv qq, iv r0, iv r1, iv r2, iv w0, iv w1, iv w2, rv b3, rv b4, oU, oU, oU, oU] [(.int (0 : Int32))])) _
      refine XS.iconst X4.here hx rfl (hb hby at_163) ?_
      show Steps p.tables e below (T4.setTop (mkF m 164 #[iv p0, oJ q1, oS, oJ q2, oS, iv p3, iv (0 : Int32), iv (if (p0 &&& (4 : Int32)) = (0 : Int32) then (0 : Int32) else (1 : Int32)), iv qq, iv r0, iv r1, iv r2, iv w0, iv w1, iv w2, rv b3, rv b4, oU, oU, oU, oU] [(.int (2 : Int32)), (.int (0 : Int32))])) _
      refine XS.icmpYes X4.here hx rfl (pc0 := 164) (pc' := 185) rfl (hb hby at_164) rfl (flt (by decide : ¬ ((2 : Int32) < (0 : Int32)))).2.2.2 (by decide) (by decide) ?_
      show Steps p.tables e below (T4.setTop (mkF m 185 #[iv p0, oJ q1, oS, oJ q2, oS, iv p3, iv (0 : Int32), iv (if (p0 &&& (4 : Int32)) = (0 : Int32) then (0 : Int32) else (1 : Int32)), iv qq, iv r0, iv r1, iv r2, iv w0, iv w1, iv w2, rv b3, rv b4, oU, oU, oU, oU] [])) _
      refine XS.lconst X4.here hx rfl (hb hby at_185) ?_
      show Steps p.tables e below (T4.setTop (mkF m 186 #[iv p0, oJ q1, oS, oJ q2, oS, iv p3, iv (0 : Int32), iv (if (p0 &&& (4 : Int32)) = (0 : Int32) then (0 : Int32) else (1 : Int32)), iv qq, iv r0, iv r1, iv r2, iv w0, iv w1, iv w2, rv b3, rv b4, oU, oU, oU, oU] [(.long (0 : Int64))])) _
      refine XS.lstore X4.here hx rfl (hb hby at_186) rfl (l' := #[iv p0, oJ q1, oS, oJ q2, oS, iv p3, iv (0 : Int32), iv (if (p0 &&& (4 : Int32)) = (0 : Int32) then (0 : Int32) else (1 : Int32)), iv qq, iv r0, iv r1, iv r2, iv w0, iv w1, iv w2, rv b3, rv b4, oJ (0 : Int64), oS, oU, oU]) rfl ?_
      show Steps p.tables e below (T4.setTop (mkF m 188 #[iv p0, oJ q1, oS, oJ q2, oS, iv p3, iv (0 : Int32), iv (if (p0 &&& (4 : Int32)) = (0 : Int32) then (0 : Int32) else (1 : Int32)), iv qq, iv r0, iv r1, iv r2, iv w0, iv w1, iv w2, rv b3, rv b4, oJ (0 : Int64), oS, oU, oU] [])) _
      refine XS.iload X4.here hx rfl (hb hby at_188) rfl ?_
      show Steps p.tables e below (T4.setTop (mkF m 190 #[iv p0, oJ q1, oS, oJ q2, oS, iv p3, iv (0 : Int32), iv (if (p0 &&& (4 : Int32)) = (0 : Int32) then (0 : Int32) else (1 : Int32)), iv qq, iv r0, iv r1, iv r2, iv w0, iv w1, iv w2, rv b3, rv b4, oJ (0 : Int64), oS, oU, oU] [(.int (0 : Int32))])) _
      refine XS.ifYes X4.here hx rfl (pc0 := 190) (pc' := 210) rfl (hb hby at_190) rfl ((if0 _ _).trans (flt (by decide : ¬ ((0 : Int32) < (0 : Int32)))).2.2.2) (by decide) (by decide) ?_
      show Steps p.tables e below (T4.setTop (mkF m 210 #[iv p0, oJ q1, oS, oJ q2, oS, iv p3, iv (0 : Int32), iv (if (p0 &&& (4 : Int32)) = (0 : Int32) then (0 : Int32) else (1 : Int32)), iv qq, iv r0, iv r1, iv r2, iv w0, iv w1, iv w2, rv b3, rv b4, oJ (0 : Int64), oS, oU, oU] [])) _
      refine XS.iload X4.here hx rfl (hb hby at_210) rfl ?_
      show Steps p.tables e below (T4.setTop (mkF m 212 #[iv p0, oJ q1, oS, oJ q2, oS, iv p3, iv (0 : Int32), iv (if (p0 &&& (4 : Int32)) = (0 : Int32) then (0 : Int32) else (1 : Int32)), iv qq, iv r0, iv r1, iv r2, iv w0, iv w1, iv w2, rv b3, rv b4, oJ (0 : Int64), oS, oU, oU] [(.int (0 : Int32))])) _
      refine XS.iconst X4.here hx rfl (hb hby at_212) ?_
      show Steps p.tables e below (T4.setTop (mkF m 213 #[iv p0, oJ q1, oS, oJ q2, oS, iv p3, iv (0 : Int32), iv (if (p0 &&& (4 : Int32)) = (0 : Int32) then (0 : Int32) else (1 : Int32)), iv qq, iv r0, iv r1, iv r2, iv w0, iv w1, iv w2, rv b3, rv b4, oJ (0 : Int64), oS, oU, oU] [(.int (1 : Int32)), (.int (0 : Int32))])) _
      refine XS.icmpYes X4.here hx rfl (pc0 := 213) (pc' := 234) rfl (hb hby at_213) rfl (flt (by decide : ¬ ((1 : Int32) < (0 : Int32)))).2.2.2 (by decide) (by decide) ?_
      show Steps p.tables e below (T4.setTop (mkF m 234 #[iv p0, oJ q1, oS, oJ q2, oS, iv p3, iv (0 : Int32), iv (if (p0 &&& (4 : Int32)) = (0 : Int32) then (0 : Int32) else (1 : Int32)), iv qq, iv r0, iv r1, iv r2, iv w0, iv w1, iv w2, rv b3, rv b4, oJ (0 : Int64), oS, oU, oU] [])) _
      refine XS.iload X4.here hx rfl (hb hby at_234) rfl ?_
      show Steps p.tables e below (T4.setTop (mkF m 236 #[iv p0, oJ q1, oS, oJ q2, oS, iv p3, iv (0 : Int32), iv (if (p0 &&& (4 : Int32)) = (0 : Int32) then (0 : Int32) else (1 : Int32)), iv qq, iv r0, iv r1, iv r2, iv w0, iv w1, iv w2, rv b3, rv b4, oJ (0 : Int64), oS, oU, oU] [(.int (0 : Int32))])) _
      refine XS.iconst X4.here hx rfl (hb hby at_236) ?_
      show Steps p.tables e below (T4.setTop (mkF m 237 #[iv p0, oJ q1, oS, oJ q2, oS, iv p3, iv (0 : Int32), iv (if (p0 &&& (4 : Int32)) = (0 : Int32) then (0 : Int32) else (1 : Int32)), iv qq, iv r0, iv r1, iv r2, iv w0, iv w1, iv w2, rv b3, rv b4, oJ (0 : Int64), oS, oU, oU] [(.int (2 : Int32)), (.int (0 : Int32))])) _
      refine XS.icmpYes X4.here hx rfl (pc0 := 237) (pc' := 258) rfl (hb hby at_237) rfl (flt (by decide : ¬ ((2 : Int32) < (0 : Int32)))).2.2.2 (by decide) (by decide) ?_
      show Steps p.tables e below (T4.setTop (mkF m 258 #[iv p0, oJ q1, oS, oJ q2, oS, iv p3, iv (0 : Int32), iv (if (p0 &&& (4 : Int32)) = (0 : Int32) then (0 : Int32) else (1 : Int32)), iv qq, iv r0, iv r1, iv r2, iv w0, iv w1, iv w2, rv b3, rv b4, oJ (0 : Int64), oS, oU, oU] [])) _
      refine XS.aload X4.here hx rfl (hb hby at_258) rfl rfl ?_
      show Steps p.tables e below (T4.setTop (mkF m 260 #[iv p0, oJ q1, oS, oJ q2, oS, iv p3, iv (0 : Int32), iv (if (p0 &&& (4 : Int32)) = (0 : Int32) then (0 : Int32) else (1 : Int32)), iv qq, iv r0, iv r1, iv r2, iv w0, iv w1, iv w2, rv b3, rv b4, oJ (0 : Int64), oS, oU, oU] [(.ref b3)])) _
      refine XS.aload X4.here hx rfl (hb hby at_260) rfl rfl ?_
      show Steps p.tables e below (T4.setTop (mkF m 262 #[iv p0, oJ q1, oS, oJ q2, oS, iv p3, iv (0 : Int32), iv (if (p0 &&& (4 : Int32)) = (0 : Int32) then (0 : Int32) else (1 : Int32)), iv qq, iv r0, iv r1, iv r2, iv w0, iv w1, iv w2, rv b3, rv b4, oJ (0 : Int64), oS, oU, oU] [(.ref b4), (.ref b3)])) _
      refine XS.iload X4.here hx rfl (hb hby at_262) rfl ?_
      show Steps p.tables e below (T4.setTop (mkF m 264 #[iv p0, oJ q1, oS, oJ q2, oS, iv p3, iv (0 : Int32), iv (if (p0 &&& (4 : Int32)) = (0 : Int32) then (0 : Int32) else (1 : Int32)), iv qq, iv r0, iv r1, iv r2, iv w0, iv w1, iv w2, rv b3, rv b4, oJ (0 : Int64), oS, oU, oU] [(.int qq), (.ref b4), (.ref b3)])) _
      exact k
    refine own_cc (own_callS X4 hx hZ (y := (⟨"com/example/rivulet/rivulet/flow/Flow", "expected", "([D[DI)D"⟩ : MethodName)) hown (hw _ (List.mem_of_getElem? (i := 3) rfl)) (hw _ (List.mem_of_getElem? (i := 4) rfl)) (hw _ (List.mem_of_getElem? (i := 5) rfl)) (hw _ (List.mem_of_getElem? (i := 6) rfl)) (by decide) (rm1_0n l Z a0 hw [] b3 b4 qq k3 k4 h4 n0 Z0 V_b3 V_b4) e4 0 (by decide) (by decide) (by decide) (by decide) rfl (by rw [hml]; rfl) [(.ref b3), (.ref b4), (.int qq)] [] rfl (lenOf pd_0 rfl) rfl (by show 2 * 0 + _ ≤ _; exact Nat.le_of_eq rfl) (hb hby at_264)) fun T6 L6 v6 X6 hQ6 => ?_
    obtain ⟨x_6, rfl, N6, e6, YX'⟩ := hQ6
    replace N0 := Fr.app N0 N6
    have YX := YX'
    show own_Go p e below _ (T6.setTop (mkF m 267 #[iv p0, oJ q1, oS, oJ q2, oS, iv p3, iv (0 : Int32), iv (if (p0 &&& (4 : Int32)) = (0 : Int32) then (0 : Int32) else (1 : Int32)), iv qq, iv r0, iv r1, iv r2, iv w0, iv w1, iv w2, rv b3, rv b4, oJ (0 : Int64), oS, oU, oU] [(.double x_6)]))
    refine own_by (B := T6.setTop (mkF m 274 #[iv p0, oJ q1, oS, oJ q2, oS, iv p3, iv (0 : Int32), iv (if (p0 &&& (4 : Int32)) = (0 : Int32) then (0 : Int32) else (1 : Int32)), iv qq, iv r0, iv r1, iv r2, iv w0, iv w1, iv w2, rv b3, rv b4, oJ (0 : Int64), oS, oD x_6, oS] [(.double (4652218415073722368 : UInt64)), (.double x_6)])) (fun t k => ?_) ?_
    · show Steps p.tables e below (T6.setTop (mkF m 267 #[iv p0, oJ q1, oS, oJ q2, oS, iv p3, iv (0 : Int32), iv (if (p0 &&& (4 : Int32)) = (0 : Int32) then (0 : Int32) else (1 : Int32)), iv qq, iv r0, iv r1, iv r2, iv w0, iv w1, iv w2, rv b3, rv b4, oJ (0 : Int64), oS, oU, oU] [(.double x_6)])) _
      refine XS.dstore X6.here hx rfl (hb hby at_267) rfl (l' := #[iv p0, oJ q1, oS, oJ q2, oS, iv p3, iv (0 : Int32), iv (if (p0 &&& (4 : Int32)) = (0 : Int32) then (0 : Int32) else (1 : Int32)), iv qq, iv r0, iv r1, iv r2, iv w0, iv w1, iv w2, rv b3, rv b4, oJ (0 : Int64), oS, oD x_6, oS]) rfl ?_
      show Steps p.tables e below (T6.setTop (mkF m 269 #[iv p0, oJ q1, oS, oJ q2, oS, iv p3, iv (0 : Int32), iv (if (p0 &&& (4 : Int32)) = (0 : Int32) then (0 : Int32) else (1 : Int32)), iv qq, iv r0, iv r1, iv r2, iv w0, iv w1, iv w2, rv b3, rv b4, oJ (0 : Int64), oS, oD x_6, oS] [])) _
      refine XS.dload X6.here hx rfl (hb hby at_269) rfl ?_
      show Steps p.tables e below (T6.setTop (mkF m 271 #[iv p0, oJ q1, oS, oJ q2, oS, iv p3, iv (0 : Int32), iv (if (p0 &&& (4 : Int32)) = (0 : Int32) then (0 : Int32) else (1 : Int32)), iv qq, iv r0, iv r1, iv r2, iv w0, iv w1, iv w2, rv b3, rv b4, oJ (0 : Int64), oS, oD x_6, oS] [(.double x_6)])) _
      refine X6.ldc2DoubleC hx hown (mvT hZ (hw _ (List.mem_of_getElem? (i := 7) rfl))) (g := (mkF m 271 #[iv p0, oJ q1, oS, oJ q2, oS, iv p3, iv (0 : Int32), iv (if (p0 &&& (4 : Int32)) = (0 : Int32) then (0 : Int32) else (1 : Int32)), iv qq, iv r0, iv r1, iv r2, iv w0, iv w1, iv w2, rv b3, rv b4, oJ (0 : Int64), oS, oD x_6, oS] [(.double x_6)])) rfl (hb hby at_271) _ ?_
      show Steps p.tables e below (T6.setTop (mkF m 274 #[iv p0, oJ q1, oS, oJ q2, oS, iv p3, iv (0 : Int32), iv (if (p0 &&& (4 : Int32)) = (0 : Int32) then (0 : Int32) else (1 : Int32)), iv qq, iv r0, iv r1, iv r2, iv w0, iv w1, iv w2, rv b3, rv b4, oJ (0 : Int64), oS, oD x_6, oS] [(.double (4652218415073722368 : UInt64)), (.double x_6)])) _
      exact k
    have Y7 : own_Di 0 0 (FP.dmul x_6 (4652218415073722368 : UInt64)) := (own_dback YX (by decide))
    refine own_by (fun t k => XS.dmulS X6.here hx rfl (hb hby at_274) rfl (own_nnI Y7) rfl k) ?_
    generalize (FP.dmul x_6 (4652218415073722368 : UInt64)) = d7 at Y7 ⊢
    show own_Go p e below _ (T6.setTop (mkF m 275 #[iv p0, oJ q1, oS, oJ q2, oS, iv p3, iv (0 : Int32), iv (if (p0 &&& (4 : Int32)) = (0 : Int32) then (0 : Int32) else (1 : Int32)), iv qq, iv r0, iv r1, iv r2, iv w0, iv w1, iv w2, rv b3, rv b4, oJ (0 : Int64), oS, oD x_6, oS] [(.double d7)]))
    refine own_by (B := T6.setTop (mkF m 277 #[iv p0, oJ q1, oS, oJ q2, oS, iv p3, iv (0 : Int32), iv (if (p0 &&& (4 : Int32)) = (0 : Int32) then (0 : Int32) else (1 : Int32)), iv qq, iv r0, iv r1, iv r2, iv w0, iv w1, iv w2, rv b3, rv b4, oJ (0 : Int64), oS, oD x_6, oS] [(.long (0 : Int64)), (.double d7)])) (fun t k => ?_) ?_
    · show Steps p.tables e below (T6.setTop (mkF m 275 #[iv p0, oJ q1, oS, oJ q2, oS, iv p3, iv (0 : Int32), iv (if (p0 &&& (4 : Int32)) = (0 : Int32) then (0 : Int32) else (1 : Int32)), iv qq, iv r0, iv r1, iv r2, iv w0, iv w1, iv w2, rv b3, rv b4, oJ (0 : Int64), oS, oD x_6, oS] [(.double d7)])) _
      refine XS.lload X6.here hx rfl (hb hby at_275) rfl ?_
      show Steps p.tables e below (T6.setTop (mkF m 277 #[iv p0, oJ q1, oS, oJ q2, oS, iv p3, iv (0 : Int32), iv (if (p0 &&& (4 : Int32)) = (0 : Int32) then (0 : Int32) else (1 : Int32)), iv qq, iv r0, iv r1, iv r2, iv w0, iv w1, iv w2, rv b3, rv b4, oJ (0 : Int64), oS, oD x_6, oS] [(.long (0 : Int64)), (.double d7)])) _
      exact k
    have t9 : (0 : Int64).toInt = 0 ∧ (0 : Int64).toInt.natAbs ≤ 0 := ⟨by decide, by decide⟩
    have Y8 : own_Di (0 : Int64).toInt 0 (FP.l2d (0 : Int64)) := (own_l2d (0 : Int64) 0 t9.2 (by decide))
    refine own_by (fun t k => XS.l2dS X6.here hx rfl (hb hby at_277) rfl rfl k) ?_
    generalize (FP.l2d (0 : Int64)) = d8 at Y8 ⊢
    show own_Go p e below _ (T6.setTop (mkF m 278 #[iv p0, oJ q1, oS, oJ q2, oS, iv p3, iv (0 : Int32), iv (if (p0 &&& (4 : Int32)) = (0 : Int32) then (0 : Int32) else (1 : Int32)), iv qq, iv r0, iv r1, iv r2, iv w0, iv w1, iv w2, rv b3, rv b4, oJ (0 : Int64), oS, oD x_6, oS] [(.double d8), (.double d7)]))
    refine own_by (fun t k => XS.dcmpS X6.here hx rfl (hb hby at_278) rfl (v := (0 : Int32)) (own_dcmp Y7 Y8 (show (0 : Int) = (0 : Int64).toInt by decide) .l) k) ?_
    show own_Go p e below _ (T6.setTop (mkF m 279 #[iv p0, oJ q1, oS, oJ q2, oS, iv p3, iv (0 : Int32), iv (if (p0 &&& (4 : Int32)) = (0 : Int32) then (0 : Int32) else (1 : Int32)), iv qq, iv r0, iv r1, iv r2, iv w0, iv w1, iv w2, rv b3, rv b4, oJ (0 : Int64), oS, oD x_6, oS] [(.int (0 : Int32))]))
    refine own_by (B := T6.setTop (mkF m 287 #[iv p0, oJ q1, oS, oJ q2, oS, iv p3, iv (0 : Int32), iv (if (p0 &&& (4 : Int32)) = (0 : Int32) then (0 : Int32) else (1 : Int32)), iv qq, iv r0, iv r1, iv r2, iv w0, iv w1, iv w2, rv b3, rv b4, oJ (0 : Int64), oS, oD x_6, oS] [(.int (1 : Int32))])) (fun t k => ?_) ?_
    · show Steps p.tables e below (T6.setTop (mkF m 279 #[iv p0, oJ q1, oS, oJ q2, oS, iv p3, iv (0 : Int32), iv (if (p0 &&& (4 : Int32)) = (0 : Int32) then (0 : Int32) else (1 : Int32)), iv qq, iv r0, iv r1, iv r2, iv w0, iv w1, iv w2, rv b3, rv b4, oJ (0 : Int64), oS, oD x_6, oS] [(.int (0 : Int32))])) _
      refine XS.ifNo X6.here hx rfl (hb hby at_279) rfl ((if0 _ _).trans (teq (by decide : (0 : Int32) = (0 : Int32))).2) ?_
      show Steps p.tables e below (T6.setTop (mkF m 282 #[iv p0, oJ q1, oS, oJ q2, oS, iv p3, iv (0 : Int32), iv (if (p0 &&& (4 : Int32)) = (0 : Int32) then (0 : Int32) else (1 : Int32)), iv qq, iv r0, iv r1, iv r2, iv w0, iv w1, iv w2, rv b3, rv b4, oJ (0 : Int64), oS, oD x_6, oS] [])) _
      refine XS.iconst X6.here hx rfl (hb hby at_282) ?_
      show Steps p.tables e below (T6.setTop (mkF m 283 #[iv p0, oJ q1, oS, oJ q2, oS, iv p3, iv (0 : Int32), iv (if (p0 &&& (4 : Int32)) = (0 : Int32) then (0 : Int32) else (1 : Int32)), iv qq, iv r0, iv r1, iv r2, iv w0, iv w1, iv w2, rv b3, rv b4, oJ (0 : Int64), oS, oD x_6, oS] [(.int (1 : Int32))])) _
      refine XS.goto X6.here hx rfl (pc0 := 283) (pc' := 287) rfl (hb hby at_283) (by decide) (by decide) ?_
      show Steps p.tables e below (T6.setTop (mkF m 287 #[iv p0, oJ q1, oS, oJ q2, oS, iv p3, iv (0 : Int32), iv (if (p0 &&& (4 : Int32)) = (0 : Int32) then (0 : Int32) else (1 : Int32)), iv qq, iv r0, iv r1, iv r2, iv w0, iv w1, iv w2, rv b3, rv b4, oJ (0 : Int64), oS, oD x_6, oS] [(.int (1 : Int32))])) _
      exact k
    exact own_retN X6 Bd.notSynchronized hx (t := .boolean) Bd.returns (by simp) (hb hby at_287) (by
        try rw [show T6.heap = h4 from e6]
        exact ⟨rfl, N0⟩) (by decide) (by decide)
  · simp only [hk]
    show own_Go p e below _ (s₁.setTop (mkF m 104 #[iv p0, oJ q1, oS, oJ q2, oS, iv p3, iv (1 : Int32), iv (if (p0 &&& (4 : Int32)) = (0 : Int32) then (0 : Int32) else (1 : Int32)), iv qq, iv r0, iv r1, iv r2, iv w0, iv w1, iv w2, oU, oU, oU, oU, oU, oU] [(.int (1 : Int32))]))
    have br0 : r0.toInt.natAbs ≤ 1024 := by rw [← hr0]; exact own_r _
    have bw0 : w0.toInt.natAbs ≤ 32768 := by rw [← hw0]; exact own_w _
    have br1 : r1.toInt.natAbs ≤ 1024 := by rw [← hr1]; exact own_r _
    have bw1 : w1.toInt.natAbs ≤ 32768 := by rw [← hw1]; exact own_w _
    have br2 : r2.toInt.natAbs ≤ 1024 := by rw [← hr2]; exact own_r _
    have bw2 : w2.toInt.natAbs ≤ 32768 := by rw [← hw2]; exact own_w _
    obtain ⟨T11, h11, k11, X11, e11, E11, A11, st11⟩ := newP X0 hx hZ (hw _ (List.mem_of_getElem? (i := 2) rfl)) e0 (g := (mkF m 104 #[iv p0, oJ q1, oS, oJ q2, oS, iv p3, iv (1 : Int32), iv (if (p0 &&& (4 : Int32)) = (0 : Int32) then (0 : Int32) else (1 : Int32)), iv qq, iv r0, iv r1, iv r2, iv w0, iv w1, iv w2, oU, oU, oU, oU, oU, oU] [(.int (1 : Int32))])) rfl (hb hby at_104) rfl (by decide) (cap := 1) (by decide) (by decide) (by decide) (by decide)
    obtain ⟨b11, g11⟩ : ∃ z, z = h0.size := ⟨_, rfl⟩
    rw [← g11] at A11 st11
    have g_b11 : n0 ≤ b11 := Nat.le_trans Z0 (Nat.le_of_eq g11.symm)
    replace Z0 := Nat.le_trans Z0 E11.1
    have V_b11 : Arv Z h11 b11 k11 .double (1 : Int32) [] (.double (0 : UInt64)) := Arv.new A11 (by decide)
    refine own_by st11 ?_
    show own_Go p e below _ (T11.setTop (mkF m 106 #[iv p0, oJ q1, oS, oJ q2, oS, iv p3, iv (1 : Int32), iv (if (p0 &&& (4 : Int32)) = (0 : Int32) then (0 : Int32) else (1 : Int32)), iv qq, iv r0, iv r1, iv r2, iv w0, iv w1, iv w2, oU, oU, oU, oU, oU, oU] [(.ref b11)]))
    refine own_by (B := T11.setTop (mkF m 110 #[iv p0, oJ q1, oS, oJ q2, oS, iv p3, iv (1 : Int32), iv (if (p0 &&& (4 : Int32)) = (0 : Int32) then (0 : Int32) else (1 : Int32)), iv qq, iv r0, iv r1, iv r2, iv w0, iv w1, iv w2, rv b11, oU, oU, oU, oU, oU] [(.int (1 : Int32))])) (fun t k => ?_) ?_
    · show Steps p.tables e below (T11.setTop (mkF m 106 #[iv p0, oJ q1, oS, oJ q2, oS, iv p3, iv (1 : Int32), iv (if (p0 &&& (4 : Int32)) = (0 : Int32) then (0 : Int32) else (1 : Int32)), iv qq, iv r0, iv r1, iv r2, iv w0, iv w1, iv w2, oU, oU, oU, oU, oU, oU] [(.ref b11)])) _
      refine XS.astore X11.here hx rfl (hb hby at_106) rfl rfl (l' := #[iv p0, oJ q1, oS, oJ q2, oS, iv p3, iv (1 : Int32), iv (if (p0 &&& (4 : Int32)) = (0 : Int32) then (0 : Int32) else (1 : Int32)), iv qq, iv r0, iv r1, iv r2, iv w0, iv w1, iv w2, rv b11, oU, oU, oU, oU, oU]) rfl ?_
      show Steps p.tables e below (T11.setTop (mkF m 108 #[iv p0, oJ q1, oS, oJ q2, oS, iv p3, iv (1 : Int32), iv (if (p0 &&& (4 : Int32)) = (0 : Int32) then (0 : Int32) else (1 : Int32)), iv qq, iv r0, iv r1, iv r2, iv w0, iv w1, iv w2, rv b11, oU, oU, oU, oU, oU] [])) _
      refine XS.iload X11.here hx rfl (hb hby at_108) rfl ?_
      show Steps p.tables e below (T11.setTop (mkF m 110 #[iv p0, oJ q1, oS, oJ q2, oS, iv p3, iv (1 : Int32), iv (if (p0 &&& (4 : Int32)) = (0 : Int32) then (0 : Int32) else (1 : Int32)), iv qq, iv r0, iv r1, iv r2, iv w0, iv w1, iv w2, rv b11, oU, oU, oU, oU, oU] [(.int (1 : Int32))])) _
      exact k
    obtain ⟨T12, h12, k12, X12, e12, E12, A12, st12⟩ := newP X11 hx hZ (hw _ (List.mem_of_getElem? (i := 2) rfl)) e11 (g := (mkF m 110 #[iv p0, oJ q1, oS, oJ q2, oS, iv p3, iv (1 : Int32), iv (if (p0 &&& (4 : Int32)) = (0 : Int32) then (0 : Int32) else (1 : Int32)), iv qq, iv r0, iv r1, iv r2, iv w0, iv w1, iv w2, rv b11, oU, oU, oU, oU, oU] [(.int (1 : Int32))])) rfl (hb hby at_110) rfl (by decide) (cap := 1) (by decide) (by decide) (by decide) (by decide)
    obtain ⟨b12, g12⟩ : ∃ z, z = h11.size := ⟨_, rfl⟩
    rw [← g12] at A12 st12
    have g_b12 : n0 ≤ b12 := Nat.le_trans Z0 (Nat.le_of_eq g12.symm)
    have ne_b11_b12 : b11 ≠ b12 := Nat.ne_of_lt (Nat.lt_of_lt_of_le V_b11.lt (Nat.le_of_eq g12.symm))
    replace V_b11 := V_b11.ext E12
    replace Z0 := Nat.le_trans Z0 E12.1
    have V_b12 : Arv Z h12 b12 k12 .double (1 : Int32) [] (.double (0 : UInt64)) := Arv.new A12 (by decide)
    refine own_by st12 ?_
    show own_Go p e below _ (T12.setTop (mkF m 112 #[iv p0, oJ q1, oS, oJ q2, oS, iv p3, iv (1 : Int32), iv (if (p0 &&& (4 : Int32)) = (0 : Int32) then (0 : Int32) else (1 : Int32)), iv qq, iv r0, iv r1, iv r2, iv w0, iv w1, iv w2, rv b11, oU, oU, oU, oU, oU] [(.ref b12)]))
    refine own_by (B := T12.setTop (mkF m 124 #[iv p0, oJ q1, oS, oJ q2, oS, iv p3, iv (1 : Int32), iv (if (p0 &&& (4 : Int32)) = (0 : Int32) then (0 : Int32) else (1 : Int32)), iv qq, iv r0, iv r1, iv r2, iv w0, iv w1, iv w2, rv b11, rv b12, oU, oU, oU, oU] [(.int r0), (.int (0 : Int32)), (.ref b11)])) (fun t k => ?_) ?_
    · show Steps p.tables e below (T12.setTop (mkF m 112 #[iv p0, oJ q1, oS, oJ q2, oS, iv p3, iv (1 : Int32), iv (if (p0 &&& (4 : Int32)) = (0 : Int32) then (0 : Int32) else (1 : Int32)), iv qq, iv r0, iv r1, iv r2, iv w0, iv w1, iv w2, rv b11, oU, oU, oU, oU, oU] [(.ref b12)])) _
      refine XS.astore X12.here hx rfl (hb hby at_112) rfl rfl (l' := #[iv p0, oJ q1, oS, oJ q2, oS, iv p3, iv (1 : Int32), iv (if (p0 &&& (4 : Int32)) = (0 : Int32) then (0 : Int32) else (1 : Int32)), iv qq, iv r0, iv r1, iv r2, iv w0, iv w1, iv w2, rv b11, rv b12, oU, oU, oU, oU]) rfl ?_
      show Steps p.tables e below (T12.setTop (mkF m 114 #[iv p0, oJ q1, oS, oJ q2, oS, iv p3, iv (1 : Int32), iv (if (p0 &&& (4 : Int32)) = (0 : Int32) then (0 : Int32) else (1 : Int32)), iv qq, iv r0, iv r1, iv r2, iv w0, iv w1, iv w2, rv b11, rv b12, oU, oU, oU, oU] [])) _
      refine XS.iload X12.here hx rfl (hb hby at_114) rfl ?_
      show Steps p.tables e below (T12.setTop (mkF m 116 #[iv p0, oJ q1, oS, oJ q2, oS, iv p3, iv (1 : Int32), iv (if (p0 &&& (4 : Int32)) = (0 : Int32) then (0 : Int32) else (1 : Int32)), iv qq, iv r0, iv r1, iv r2, iv w0, iv w1, iv w2, rv b11, rv b12, oU, oU, oU, oU] [(.int (1 : Int32))])) _
      refine XS.ifNo X12.here hx rfl (hb hby at_116) rfl ((if0 _ _).trans (tlt (by decide : (0 : Int32) < (1 : Int32))).2.2.2) ?_
      show Steps p.tables e below (T12.setTop (mkF m 119 #[iv p0, oJ q1, oS, oJ q2, oS, iv p3, iv (1 : Int32), iv (if (p0 &&& (4 : Int32)) = (0 : Int32) then (0 : Int32) else (1 : Int32)), iv qq, iv r0, iv r1, iv r2, iv w0, iv w1, iv w2, rv b11, rv b12, oU, oU, oU, oU] [])) _
      refine XS.aload X12.here hx rfl (hb hby at_119) rfl rfl ?_
      show Steps p.tables e below (T12.setTop (mkF m 121 #[iv p0, oJ q1, oS, oJ q2, oS, iv p3, iv (1 : Int32), iv (if (p0 &&& (4 : Int32)) = (0 : Int32) then (0 : Int32) else (1 : Int32)), iv qq, iv r0, iv r1, iv r2, iv w0, iv w1, iv w2, rv b11, rv b12, oU, oU, oU, oU] [(.ref b11)])) _
      refine XS.iconst X12.here hx rfl (hb hby at_121) ?_
      show Steps p.tables e below (T12.setTop (mkF m 122 #[iv p0, oJ q1, oS, oJ q2, oS, iv p3, iv (1 : Int32), iv (if (p0 &&& (4 : Int32)) = (0 : Int32) then (0 : Int32) else (1 : Int32)), iv qq, iv r0, iv r1, iv r2, iv w0, iv w1, iv w2, rv b11, rv b12, oU, oU, oU, oU] [(.int (0 : Int32)), (.ref b11)])) _
      refine XS.iload X12.here hx rfl (hb hby at_122) rfl ?_
      show Steps p.tables e below (T12.setTop (mkF m 124 #[iv p0, oJ q1, oS, oJ q2, oS, iv p3, iv (1 : Int32), iv (if (p0 &&& (4 : Int32)) = (0 : Int32) then (0 : Int32) else (1 : Int32)), iv qq, iv r0, iv r1, iv r2, iv w0, iv w1, iv w2, rv b11, rv b12, oU, oU, oU, oU] [(.int r0), (.int (0 : Int32)), (.ref b11)])) _
      exact k
    have Y13 : own_Di r0.toInt 1024 (FP.i2d r0) := (own_i2d r0 1024 br0)
    refine own_by (fun t k => XS.i2dS X12.here hx rfl (hb hby at_124) rfl rfl k) ?_
    generalize (FP.i2d r0) = d13 at Y13 ⊢
    show own_Go p e below _ (T12.setTop (mkF m 125 #[iv p0, oJ q1, oS, oJ q2, oS, iv p3, iv (1 : Int32), iv (if (p0 &&& (4 : Int32)) = (0 : Int32) then (0 : Int32) else (1 : Int32)), iv qq, iv r0, iv r1, iv r2, iv w0, iv w1, iv w2, rv b11, rv b12, oU, oU, oU, oU] [(.double d13), (.int (0 : Int32)), (.ref b11)]))
    refine own_by (B := T12.setTop (mkF m 128 #[iv p0, oJ q1, oS, oJ q2, oS, iv p3, iv (1 : Int32), iv (if (p0 &&& (4 : Int32)) = (0 : Int32) then (0 : Int32) else (1 : Int32)), iv qq, iv r0, iv r1, iv r2, iv w0, iv w1, iv w2, rv b11, rv b12, oU, oU, oU, oU] [(.double (4652218415073722368 : UInt64)), (.double d13), (.int (0 : Int32)), (.ref b11)])) (fun t k => ?_) ?_
    · show Steps p.tables e below (T12.setTop (mkF m 125 #[iv p0, oJ q1, oS, oJ q2, oS, iv p3, iv (1 : Int32), iv (if (p0 &&& (4 : Int32)) = (0 : Int32) then (0 : Int32) else (1 : Int32)), iv qq, iv r0, iv r1, iv r2, iv w0, iv w1, iv w2, rv b11, rv b12, oU, oU, oU, oU] [(.double d13), (.int (0 : Int32)), (.ref b11)])) _
      refine X12.ldc2DoubleC hx hown (mvT hZ (hw _ (List.mem_of_getElem? (i := 7) rfl))) (g := (mkF m 125 #[iv p0, oJ q1, oS, oJ q2, oS, iv p3, iv (1 : Int32), iv (if (p0 &&& (4 : Int32)) = (0 : Int32) then (0 : Int32) else (1 : Int32)), iv qq, iv r0, iv r1, iv r2, iv w0, iv w1, iv w2, rv b11, rv b12, oU, oU, oU, oU] [(.double d13), (.int (0 : Int32)), (.ref b11)])) rfl (hb hby at_125) _ ?_
      show Steps p.tables e below (T12.setTop (mkF m 128 #[iv p0, oJ q1, oS, oJ q2, oS, iv p3, iv (1 : Int32), iv (if (p0 &&& (4 : Int32)) = (0 : Int32) then (0 : Int32) else (1 : Int32)), iv qq, iv r0, iv r1, iv r2, iv w0, iv w1, iv w2, rv b11, rv b12, oU, oU, oU, oU] [(.double (4652218415073722368 : UInt64)), (.double d13), (.int (0 : Int32)), (.ref b11)])) _
      exact k
    have Y14 : own_Dy r0.toInt 1024 (FP.ddiv d13 (4652218415073722368 : UInt64)) := (own_ddiv Y13 (by decide))
    refine own_by (fun t k => XS.ddivS X12.here hx rfl (hb hby at_128) rfl (own_nnY Y14) rfl k) ?_
    generalize (FP.ddiv d13 (4652218415073722368 : UInt64)) = d14 at Y14 ⊢
    show own_Go p e below _ (T12.setTop (mkF m 129 #[iv p0, oJ q1, oS, oJ q2, oS, iv p3, iv (1 : Int32), iv (if (p0 &&& (4 : Int32)) = (0 : Int32) then (0 : Int32) else (1 : Int32)), iv qq, iv r0, iv r1, iv r2, iv w0, iv w1, iv w2, rv b11, rv b12, oU, oU, oU, oU] [(.double d14), (.int (0 : Int32)), (.ref b11)]))
    replace V_b11 : Arv Z h12 b11 k11 .double (1 : Int32) [(.double (0 : UInt64))] (.double (0 : UInt64)) := V_b11.pad (pad_rep [] (.double (0 : UInt64)) 1)
    obtain ⟨cl15, Ar15, q15, S15, N15, H15, G15⟩ := V_b11
    have hin15 : ¬ ((0 : Int32) < 0 ∨ cl15.slots.size ≤ ((0 : Int32)).toNatClampNeg) := inb_of S15 ⟨by decide, by decide⟩
    refine own_c2 (stD X12 hx hZ e12 Ar15 (j := (0 : Int32)) hin15 rfl rfl (hb hby at_129)) fun T15 h15 X15 e15 W15 => ?_
    replace V_b11 : Arv Z h15 b11 k11 .double (1 : Int32) [(.double d14)] (.double (0 : UInt64)) := Arv.set Ar15 q15 S15 N15 H15 G15 rfl W15 0 rfl (Nat.le_of_ble_eq_true rfl)
    replace V_b12 := V_b12.other W15 (Ne.symm ne_b11_b12)
    replace Z0 := Nat.le_trans Z0 (Keep.of_wr W15).1
    replace N0 := Fr.snoc X15 N0 g_b11
    show own_Go p e below _ (T15.setTop (mkF m 130 #[iv p0, oJ q1, oS, oJ q2, oS, iv p3, iv (1 : Int32), iv (if (p0 &&& (4 : Int32)) = (0 : Int32) then (0 : Int32) else (1 : Int32)), iv qq, iv r0, iv r1, iv r2, iv w0, iv w1, iv w2, rv b11, rv b12, oU, oU, oU, oU] []))
    refine own_by (B := T15.setTop (mkF m 135 #[iv p0, oJ q1, oS, oJ q2, oS, iv p3, iv (1 : Int32), iv (if (p0 &&& (4 : Int32)) = (0 : Int32) then (0 : Int32) else (1 : Int32)), iv qq, iv r0, iv r1, iv r2, iv w0, iv w1, iv w2, rv b11, rv b12, oU, oU, oU, oU] [(.int w0), (.int (0 : Int32)), (.ref b12)])) (fun t k => ?_) ?_
    · show Steps p.tables e below (T15.setTop (mkF m 130 #[iv p0, oJ q1, oS, oJ q2, oS, iv p3, iv (1 : Int32), iv (if (p0 &&& (4 : Int32)) = (0 : Int32) then (0 : Int32) else (1 : Int32)), iv qq, iv r0, iv r1, iv r2, iv w0, iv w1, iv w2, rv b11, rv b12, oU, oU, oU, oU] [])) _
      refine XS.aload X15.here hx rfl (hb hby at_130) rfl rfl ?_
      show Steps p.tables e below (T15.setTop (mkF m 132 #[iv p0, oJ q1, oS, oJ q2, oS, iv p3, iv (1 : Int32), iv (if (p0 &&& (4 : Int32)) = (0 : Int32) then (0 : Int32) else (1 : Int32)), iv qq, iv r0, iv r1, iv r2, iv w0, iv w1, iv w2, rv b11, rv b12, oU, oU, oU, oU] [(.ref b12)])) _
      refine XS.iconst X15.here hx rfl (hb hby at_132) ?_
      show Steps p.tables e below (T15.setTop (mkF m 133 #[iv p0, oJ q1, oS, oJ q2, oS, iv p3, iv (1 : Int32), iv (if (p0 &&& (4 : Int32)) = (0 : Int32) then (0 : Int32) else (1 : Int32)), iv qq, iv r0, iv r1, iv r2, iv w0, iv w1, iv w2, rv b11, rv b12, oU, oU, oU, oU] [(.int (0 : Int32)), (.ref b12)])) _
      refine XS.iload X15.here hx rfl (hb hby at_133) rfl ?_
      show Steps p.tables e below (T15.setTop (mkF m 135 #[iv p0, oJ q1, oS, oJ q2, oS, iv p3, iv (1 : Int32), iv (if (p0 &&& (4 : Int32)) = (0 : Int32) then (0 : Int32) else (1 : Int32)), iv qq, iv r0, iv r1, iv r2, iv w0, iv w1, iv w2, rv b11, rv b12, oU, oU, oU, oU] [(.int w0), (.int (0 : Int32)), (.ref b12)])) _
      exact k
    have Y16 : own_Di w0.toInt 32768 (FP.i2d w0) := (own_i2d w0 32768 bw0)
    refine own_by (fun t k => XS.i2dS X15.here hx rfl (hb hby at_135) rfl rfl k) ?_
    generalize (FP.i2d w0) = d16 at Y16 ⊢
    show own_Go p e below _ (T15.setTop (mkF m 136 #[iv p0, oJ q1, oS, oJ q2, oS, iv p3, iv (1 : Int32), iv (if (p0 &&& (4 : Int32)) = (0 : Int32) then (0 : Int32) else (1 : Int32)), iv qq, iv r0, iv r1, iv r2, iv w0, iv w1, iv w2, rv b11, rv b12, oU, oU, oU, oU] [(.double d16), (.int (0 : Int32)), (.ref b12)]))
    replace V_b12 : Arv Z h15 b12 k12 .double (1 : Int32) [(.double (0 : UInt64))] (.double (0 : UInt64)) := V_b12.pad (pad_rep [] (.double (0 : UInt64)) 1)
    obtain ⟨cl17, Ar17, q17, S17, N17, H17, G17⟩ := V_b12
    have hin17 : ¬ ((0 : Int32) < 0 ∨ cl17.slots.size ≤ ((0 : Int32)).toNatClampNeg) := inb_of S17 ⟨by decide, by decide⟩
    refine own_c2 (stD X15 hx hZ e15 Ar17 (j := (0 : Int32)) hin17 rfl rfl (hb hby at_136)) fun T17 h17 X17 e17 W17 => ?_
    replace V_b12 : Arv Z h17 b12 k12 .double (1 : Int32) [(.double d16)] (.double (0 : UInt64)) := Arv.set Ar17 q17 S17 N17 H17 G17 rfl W17 0 rfl (Nat.le_of_ble_eq_true rfl)
    replace V_b11 := V_b11.other W17 ne_b11_b12
    replace Z0 := Nat.le_trans Z0 (Keep.of_wr W17).1
    replace N0 := Fr.snoc X17 N0 g_b12
    show own_Go p e below _ (T17.setTop (mkF m 137 #[iv p0, oJ q1, oS, oJ q2, oS, iv p3, iv (1 : Int32), iv (if (p0 &&& (4 : Int32)) = (0 : Int32) then (0 : Int32) else (1 : Int32)), iv qq, iv r0, iv r1, iv r2, iv w0, iv w1, iv w2, rv b11, rv b12, oU, oU, oU, oU] []))
    refine own_by (B := T17.setTop (mkF m 195 #[iv p0, oJ q1, oS, oJ q2, oS, iv p3, iv (1 : Int32), iv (if (p0 &&& (4 : Int32)) = (0 : Int32) then (0 : Int32) else (1 : Int32)), iv qq, iv r0, iv r1, iv r2, iv w0, iv w1, iv w2, rv b11, rv b12, oJ (0 : Int64), oS, oU, oU] [(.int qq)])) (fun t k => ?_) ?_
    · show Steps p.tables e below (T17.setTop (mkF m 137 #[iv p0, oJ q1, oS, oJ q2, oS, iv p3, iv (1 : Int32), iv (if (p0 &&& (4 : Int32)) = (0 : Int32) then (0 : Int32) else (1 : Int32)), iv qq, iv r0, iv r1, iv r2, iv w0, iv w1, iv w2, rv b11, rv b12, oU, oU, oU, oU] [])) _
      refine XS.iload X17.here hx rfl (hb hby at_137) rfl ?_
      show Steps p.tables e below (T17.setTop (mkF m 139 #[iv p0, oJ q1, oS, oJ q2, oS, iv p3, iv (1 : Int32), iv (if (p0 &&& (4 : Int32)) = (0 : Int32) then (0 : Int32) else (1 : Int32)), iv qq, iv r0, iv r1, iv r2, iv w0, iv w1, iv w2, rv b11, rv b12, oU, oU, oU, oU] [(.int (1 : Int32))])) _
      refine XS.iconst X17.here hx rfl (hb hby at_139) ?_
      show Steps p.tables e below (T17.setTop (mkF m 140 #[iv p0, oJ q1, oS, oJ q2, oS, iv p3, iv (1 : Int32), iv (if (p0 &&& (4 : Int32)) = (0 : Int32) then (0 : Int32) else (1 : Int32)), iv qq, iv r0, iv r1, iv r2, iv w0, iv w1, iv w2, rv b11, rv b12, oU, oU, oU, oU] [(.int (1 : Int32)), (.int (1 : Int32))])) _
      refine XS.icmpYes X17.here hx rfl (pc0 := 140) (pc' := 161) rfl (hb hby at_140) rfl (flt (by decide : ¬ ((1 : Int32) < (1 : Int32)))).2.2.2 (by decide) (by decide) ?_
      show Steps p.tables e below (T17.setTop (mkF m 161 #[iv p0, oJ q1, oS, oJ q2, oS, iv p3, iv (1 : Int32), iv (if (p0 &&& (4 : Int32)) = (0 : Int32) then (0 : Int32) else (1 : Int32)), iv qq, iv r0, iv r1, iv r2, iv w0, iv w1, iv w2, rv b11, rv b12, oU, oU, oU, oU] [])) _
      refine XS.iload X17.here hx rfl (hb hby at_161) rfl ?_
      show Steps p.tables e below (T17.setTop (mkF m 163 #[iv p0, oJ q1, oS, oJ q2, oS, iv p3, iv (1 : Int32), iv (if (p0 &&& (4 : Int32)) = (0 : Int32) then (0 : Int32) else (1 : Int32)), iv qq, iv r0, iv r1, iv r2, iv w0, iv w1, iv w2, rv b11, rv b12, oU, oU, oU, oU] [(.int (1 : Int32))])) _
      refine XS.iconst X17.here hx rfl (hb hby at_163) ?_
      show Steps p.tables e below (T17.setTop (mkF m 164 #[iv p0, oJ q1, oS, oJ q2, oS, iv p3, iv (1 : Int32), iv (if (p0 &&& (4 : Int32)) = (0 : Int32) then (0 : Int32) else (1 : Int32)), iv qq, iv r0, iv r1, iv r2, iv w0, iv w1, iv w2, rv b11, rv b12, oU, oU, oU, oU] [(.int (2 : Int32)), (.int (1 : Int32))])) _
      refine XS.icmpYes X17.here hx rfl (pc0 := 164) (pc' := 185) rfl (hb hby at_164) rfl (flt (by decide : ¬ ((2 : Int32) < (1 : Int32)))).2.2.2 (by decide) (by decide) ?_
      show Steps p.tables e below (T17.setTop (mkF m 185 #[iv p0, oJ q1, oS, oJ q2, oS, iv p3, iv (1 : Int32), iv (if (p0 &&& (4 : Int32)) = (0 : Int32) then (0 : Int32) else (1 : Int32)), iv qq, iv r0, iv r1, iv r2, iv w0, iv w1, iv w2, rv b11, rv b12, oU, oU, oU, oU] [])) _
      refine XS.lconst X17.here hx rfl (hb hby at_185) ?_
      show Steps p.tables e below (T17.setTop (mkF m 186 #[iv p0, oJ q1, oS, oJ q2, oS, iv p3, iv (1 : Int32), iv (if (p0 &&& (4 : Int32)) = (0 : Int32) then (0 : Int32) else (1 : Int32)), iv qq, iv r0, iv r1, iv r2, iv w0, iv w1, iv w2, rv b11, rv b12, oU, oU, oU, oU] [(.long (0 : Int64))])) _
      refine XS.lstore X17.here hx rfl (hb hby at_186) rfl (l' := #[iv p0, oJ q1, oS, oJ q2, oS, iv p3, iv (1 : Int32), iv (if (p0 &&& (4 : Int32)) = (0 : Int32) then (0 : Int32) else (1 : Int32)), iv qq, iv r0, iv r1, iv r2, iv w0, iv w1, iv w2, rv b11, rv b12, oJ (0 : Int64), oS, oU, oU]) rfl ?_
      show Steps p.tables e below (T17.setTop (mkF m 188 #[iv p0, oJ q1, oS, oJ q2, oS, iv p3, iv (1 : Int32), iv (if (p0 &&& (4 : Int32)) = (0 : Int32) then (0 : Int32) else (1 : Int32)), iv qq, iv r0, iv r1, iv r2, iv w0, iv w1, iv w2, rv b11, rv b12, oJ (0 : Int64), oS, oU, oU] [])) _
      refine XS.iload X17.here hx rfl (hb hby at_188) rfl ?_
      show Steps p.tables e below (T17.setTop (mkF m 190 #[iv p0, oJ q1, oS, oJ q2, oS, iv p3, iv (1 : Int32), iv (if (p0 &&& (4 : Int32)) = (0 : Int32) then (0 : Int32) else (1 : Int32)), iv qq, iv r0, iv r1, iv r2, iv w0, iv w1, iv w2, rv b11, rv b12, oJ (0 : Int64), oS, oU, oU] [(.int (1 : Int32))])) _
      refine XS.ifNo X17.here hx rfl (hb hby at_190) rfl ((if0 _ _).trans (tlt (by decide : (0 : Int32) < (1 : Int32))).2.2.2) ?_
      show Steps p.tables e below (T17.setTop (mkF m 193 #[iv p0, oJ q1, oS, oJ q2, oS, iv p3, iv (1 : Int32), iv (if (p0 &&& (4 : Int32)) = (0 : Int32) then (0 : Int32) else (1 : Int32)), iv qq, iv r0, iv r1, iv r2, iv w0, iv w1, iv w2, rv b11, rv b12, oJ (0 : Int64), oS, oU, oU] [])) _
      refine XS.iload X17.here hx rfl (hb hby at_193) rfl ?_
      show Steps p.tables e below (T17.setTop (mkF m 195 #[iv p0, oJ q1, oS, oJ q2, oS, iv p3, iv (1 : Int32), iv (if (p0 &&& (4 : Int32)) = (0 : Int32) then (0 : Int32) else (1 : Int32)), iv qq, iv r0, iv r1, iv r2, iv w0, iv w1, iv w2, rv b11, rv b12, oJ (0 : Int64), oS, oU, oU] [(.int qq)])) _
      exact k
    by_cases hc18 : qq = (0 : Int32)
    · skip
      refine own_by (fun t k => XS.ifYes X17.here hx rfl (pc0 := 195) (pc' := 210) rfl (hb hby at_195) rfl ((if0 _ _).trans (teq hc18).1) (by decide) (by decide) k) ?_
      show own_Go p e below _ (T17.setTop (mkF m 210 #[iv p0, oJ q1, oS, oJ q2, oS, iv p3, iv (1 : Int32), iv (if (p0 &&& (4 : Int32)) = (0 : Int32) then (0 : Int32) else (1 : Int32)), iv qq, iv r0, iv r1, iv r2, iv w0, iv w1, iv w2, rv b11, rv b12, oJ (0 : Int64), oS, oU, oU] []))
      refine own_by (B := T17.setTop (mkF m 264 #[iv p0, oJ q1, oS, oJ q2, oS, iv p3, iv (1 : Int32), iv (if (p0 &&& (4 : Int32)) = (0 : Int32) then (0 : Int32) else (1 : Int32)), iv qq, iv r0, iv r1, iv r2, iv w0, iv w1, iv w2, rv b11, rv b12, oJ (0 : Int64), oS, oU, oU] [(.int qq), (.ref b12), (.ref b11)])) (fun t k => ?_) ?_
      · show Steps p.tables e below (T17.setTop (mkF m 210 #[iv p0, oJ q1, oS, oJ q2, oS, iv p3, iv (1 : Int32), iv (if (p0 &&& (4 : Int32)) = (0 : Int32) then (0 : Int32) else (1 : Int32)), iv qq, iv r0, iv r1, iv r2, iv w0, iv w1, iv w2, rv b11, rv b12, oJ (0 : Int64), oS, oU, oU] [])) _
        refine XS.iload X17.here hx rfl (hb hby at_210) rfl ?_
        show Steps p.tables e below (T17.setTop (mkF m 212 #[iv p0, oJ q1, oS, oJ q2, oS, iv p3, iv (1 : Int32), iv (if (p0 &&& (4 : Int32)) = (0 : Int32) then (0 : Int32) else (1 : Int32)), iv qq, iv r0, iv r1, iv r2, iv w0, iv w1, iv w2, rv b11, rv b12, oJ (0 : Int64), oS, oU, oU] [(.int (1 : Int32))])) _
        refine XS.iconst X17.here hx rfl (hb hby at_212) ?_
        show Steps p.tables e below (T17.setTop (mkF m 213 #[iv p0, oJ q1, oS, oJ q2, oS, iv p3, iv (1 : Int32), iv (if (p0 &&& (4 : Int32)) = (0 : Int32) then (0 : Int32) else (1 : Int32)), iv qq, iv r0, iv r1, iv r2, iv w0, iv w1, iv w2, rv b11, rv b12, oJ (0 : Int64), oS, oU, oU] [(.int (1 : Int32)), (.int (1 : Int32))])) _
        refine XS.icmpYes X17.here hx rfl (pc0 := 213) (pc' := 234) rfl (hb hby at_213) rfl (flt (by decide : ¬ ((1 : Int32) < (1 : Int32)))).2.2.2 (by decide) (by decide) ?_
        show Steps p.tables e below (T17.setTop (mkF m 234 #[iv p0, oJ q1, oS, oJ q2, oS, iv p3, iv (1 : Int32), iv (if (p0 &&& (4 : Int32)) = (0 : Int32) then (0 : Int32) else (1 : Int32)), iv qq, iv r0, iv r1, iv r2, iv w0, iv w1, iv w2, rv b11, rv b12, oJ (0 : Int64), oS, oU, oU] [])) _
        refine XS.iload X17.here hx rfl (hb hby at_234) rfl ?_
        show Steps p.tables e below (T17.setTop (mkF m 236 #[iv p0, oJ q1, oS, oJ q2, oS, iv p3, iv (1 : Int32), iv (if (p0 &&& (4 : Int32)) = (0 : Int32) then (0 : Int32) else (1 : Int32)), iv qq, iv r0, iv r1, iv r2, iv w0, iv w1, iv w2, rv b11, rv b12, oJ (0 : Int64), oS, oU, oU] [(.int (1 : Int32))])) _
        refine XS.iconst X17.here hx rfl (hb hby at_236) ?_
        show Steps p.tables e below (T17.setTop (mkF m 237 #[iv p0, oJ q1, oS, oJ q2, oS, iv p3, iv (1 : Int32), iv (if (p0 &&& (4 : Int32)) = (0 : Int32) then (0 : Int32) else (1 : Int32)), iv qq, iv r0, iv r1, iv r2, iv w0, iv w1, iv w2, rv b11, rv b12, oJ (0 : Int64), oS, oU, oU] [(.int (2 : Int32)), (.int (1 : Int32))])) _
        refine XS.icmpYes X17.here hx rfl (pc0 := 237) (pc' := 258) rfl (hb hby at_237) rfl (flt (by decide : ¬ ((2 : Int32) < (1 : Int32)))).2.2.2 (by decide) (by decide) ?_
        show Steps p.tables e below (T17.setTop (mkF m 258 #[iv p0, oJ q1, oS, oJ q2, oS, iv p3, iv (1 : Int32), iv (if (p0 &&& (4 : Int32)) = (0 : Int32) then (0 : Int32) else (1 : Int32)), iv qq, iv r0, iv r1, iv r2, iv w0, iv w1, iv w2, rv b11, rv b12, oJ (0 : Int64), oS, oU, oU] [])) _
        refine XS.aload X17.here hx rfl (hb hby at_258) rfl rfl ?_
        show Steps p.tables e below (T17.setTop (mkF m 260 #[iv p0, oJ q1, oS, oJ q2, oS, iv p3, iv (1 : Int32), iv (if (p0 &&& (4 : Int32)) = (0 : Int32) then (0 : Int32) else (1 : Int32)), iv qq, iv r0, iv r1, iv r2, iv w0, iv w1, iv w2, rv b11, rv b12, oJ (0 : Int64), oS, oU, oU] [(.ref b11)])) _
        refine XS.aload X17.here hx rfl (hb hby at_260) rfl rfl ?_
        show Steps p.tables e below (T17.setTop (mkF m 262 #[iv p0, oJ q1, oS, oJ q2, oS, iv p3, iv (1 : Int32), iv (if (p0 &&& (4 : Int32)) = (0 : Int32) then (0 : Int32) else (1 : Int32)), iv qq, iv r0, iv r1, iv r2, iv w0, iv w1, iv w2, rv b11, rv b12, oJ (0 : Int64), oS, oU, oU] [(.ref b12), (.ref b11)])) _
        refine XS.iload X17.here hx rfl (hb hby at_262) rfl ?_
        show Steps p.tables e below (T17.setTop (mkF m 264 #[iv p0, oJ q1, oS, oJ q2, oS, iv p3, iv (1 : Int32), iv (if (p0 &&& (4 : Int32)) = (0 : Int32) then (0 : Int32) else (1 : Int32)), iv qq, iv r0, iv r1, iv r2, iv w0, iv w1, iv w2, rv b11, rv b12, oJ (0 : Int64), oS, oU, oU] [(.int qq), (.ref b12), (.ref b11)])) _
        exact k
      refine own_cc (own_callS X17 hx hZ (y := (⟨"com/example/rivulet/rivulet/flow/Flow", "expected", "([D[DI)D"⟩ : MethodName)) hown (hw _ (List.mem_of_getElem? (i := 3) rfl)) (hw _ (List.mem_of_getElem? (i := 4) rfl)) (hw _ (List.mem_of_getElem? (i := 5) rfl)) (hw _ (List.mem_of_getElem? (i := 6) rfl)) (by decide) (rm1_10 l Z a0 hw [] b11 b12 qq k11 k12 d14 d16 r0.toInt w0.toInt h17 n0 Z0 V_b11 V_b12 Y14 Y16 hc18.symm) e17 0 (by decide) (by decide) (by decide) (by decide) rfl (by rw [hml]; rfl) [(.ref b11), (.ref b12), (.int qq)] [] rfl (lenOf pd_0 rfl) rfl (by show 2 * 0 + _ ≤ _; exact Nat.le_of_eq rfl) (hb hby at_264)) fun T20 L20 v20 X20 hQ20 => ?_
      obtain ⟨x_20, rfl, N20, e20, YX'⟩ := hQ20
      replace N0 := Fr.app N0 N20
      have YX := YX'
      show own_Go p e below _ (T20.setTop (mkF m 267 #[iv p0, oJ q1, oS, oJ q2, oS, iv p3, iv (1 : Int32), iv (if (p0 &&& (4 : Int32)) = (0 : Int32) then (0 : Int32) else (1 : Int32)), iv qq, iv r0, iv r1, iv r2, iv w0, iv w1, iv w2, rv b11, rv b12, oJ (0 : Int64), oS, oU, oU] [(.double x_20)]))
      refine own_by (B := T20.setTop (mkF m 274 #[iv p0, oJ q1, oS, oJ q2, oS, iv p3, iv (1 : Int32), iv (if (p0 &&& (4 : Int32)) = (0 : Int32) then (0 : Int32) else (1 : Int32)), iv qq, iv r0, iv r1, iv r2, iv w0, iv w1, iv w2, rv b11, rv b12, oJ (0 : Int64), oS, oD x_20, oS] [(.double (4652218415073722368 : UInt64)), (.double x_20)])) (fun t k => ?_) ?_
      · show Steps p.tables e below (T20.setTop (mkF m 267 #[iv p0, oJ q1, oS, oJ q2, oS, iv p3, iv (1 : Int32), iv (if (p0 &&& (4 : Int32)) = (0 : Int32) then (0 : Int32) else (1 : Int32)), iv qq, iv r0, iv r1, iv r2, iv w0, iv w1, iv w2, rv b11, rv b12, oJ (0 : Int64), oS, oU, oU] [(.double x_20)])) _
        refine XS.dstore X20.here hx rfl (hb hby at_267) rfl (l' := #[iv p0, oJ q1, oS, oJ q2, oS, iv p3, iv (1 : Int32), iv (if (p0 &&& (4 : Int32)) = (0 : Int32) then (0 : Int32) else (1 : Int32)), iv qq, iv r0, iv r1, iv r2, iv w0, iv w1, iv w2, rv b11, rv b12, oJ (0 : Int64), oS, oD x_20, oS]) rfl ?_
        show Steps p.tables e below (T20.setTop (mkF m 269 #[iv p0, oJ q1, oS, oJ q2, oS, iv p3, iv (1 : Int32), iv (if (p0 &&& (4 : Int32)) = (0 : Int32) then (0 : Int32) else (1 : Int32)), iv qq, iv r0, iv r1, iv r2, iv w0, iv w1, iv w2, rv b11, rv b12, oJ (0 : Int64), oS, oD x_20, oS] [])) _
        refine XS.dload X20.here hx rfl (hb hby at_269) rfl ?_
        show Steps p.tables e below (T20.setTop (mkF m 271 #[iv p0, oJ q1, oS, oJ q2, oS, iv p3, iv (1 : Int32), iv (if (p0 &&& (4 : Int32)) = (0 : Int32) then (0 : Int32) else (1 : Int32)), iv qq, iv r0, iv r1, iv r2, iv w0, iv w1, iv w2, rv b11, rv b12, oJ (0 : Int64), oS, oD x_20, oS] [(.double x_20)])) _
        refine X20.ldc2DoubleC hx hown (mvT hZ (hw _ (List.mem_of_getElem? (i := 7) rfl))) (g := (mkF m 271 #[iv p0, oJ q1, oS, oJ q2, oS, iv p3, iv (1 : Int32), iv (if (p0 &&& (4 : Int32)) = (0 : Int32) then (0 : Int32) else (1 : Int32)), iv qq, iv r0, iv r1, iv r2, iv w0, iv w1, iv w2, rv b11, rv b12, oJ (0 : Int64), oS, oD x_20, oS] [(.double x_20)])) rfl (hb hby at_271) _ ?_
        show Steps p.tables e below (T20.setTop (mkF m 274 #[iv p0, oJ q1, oS, oJ q2, oS, iv p3, iv (1 : Int32), iv (if (p0 &&& (4 : Int32)) = (0 : Int32) then (0 : Int32) else (1 : Int32)), iv qq, iv r0, iv r1, iv r2, iv w0, iv w1, iv w2, rv b11, rv b12, oJ (0 : Int64), oS, oD x_20, oS] [(.double (4652218415073722368 : UInt64)), (.double x_20)])) _
        exact k
      have Y21 : own_Di 0 0 (FP.dmul x_20 (4652218415073722368 : UInt64)) := (own_dback YX (by decide))
      refine own_by (fun t k => XS.dmulS X20.here hx rfl (hb hby at_274) rfl (own_nnI Y21) rfl k) ?_
      generalize (FP.dmul x_20 (4652218415073722368 : UInt64)) = d21 at Y21 ⊢
      show own_Go p e below _ (T20.setTop (mkF m 275 #[iv p0, oJ q1, oS, oJ q2, oS, iv p3, iv (1 : Int32), iv (if (p0 &&& (4 : Int32)) = (0 : Int32) then (0 : Int32) else (1 : Int32)), iv qq, iv r0, iv r1, iv r2, iv w0, iv w1, iv w2, rv b11, rv b12, oJ (0 : Int64), oS, oD x_20, oS] [(.double d21)]))
      refine own_by (B := T20.setTop (mkF m 277 #[iv p0, oJ q1, oS, oJ q2, oS, iv p3, iv (1 : Int32), iv (if (p0 &&& (4 : Int32)) = (0 : Int32) then (0 : Int32) else (1 : Int32)), iv qq, iv r0, iv r1, iv r2, iv w0, iv w1, iv w2, rv b11, rv b12, oJ (0 : Int64), oS, oD x_20, oS] [(.long (0 : Int64)), (.double d21)])) (fun t k => ?_) ?_
      · show Steps p.tables e below (T20.setTop (mkF m 275 #[iv p0, oJ q1, oS, oJ q2, oS, iv p3, iv (1 : Int32), iv (if (p0 &&& (4 : Int32)) = (0 : Int32) then (0 : Int32) else (1 : Int32)), iv qq, iv r0, iv r1, iv r2, iv w0, iv w1, iv w2, rv b11, rv b12, oJ (0 : Int64), oS, oD x_20, oS] [(.double d21)])) _
        refine XS.lload X20.here hx rfl (hb hby at_275) rfl ?_
        show Steps p.tables e below (T20.setTop (mkF m 277 #[iv p0, oJ q1, oS, oJ q2, oS, iv p3, iv (1 : Int32), iv (if (p0 &&& (4 : Int32)) = (0 : Int32) then (0 : Int32) else (1 : Int32)), iv qq, iv r0, iv r1, iv r2, iv w0, iv w1, iv w2, rv b11, rv b12, oJ (0 : Int64), oS, oD x_20, oS] [(.long (0 : Int64)), (.double d21)])) _
        exact k
      have t23 : (0 : Int64).toInt = 0 ∧ (0 : Int64).toInt.natAbs ≤ 0 := ⟨by decide, by decide⟩
      have Y22 : own_Di (0 : Int64).toInt 0 (FP.l2d (0 : Int64)) := (own_l2d (0 : Int64) 0 t23.2 (by decide))
      refine own_by (fun t k => XS.l2dS X20.here hx rfl (hb hby at_277) rfl rfl k) ?_
      generalize (FP.l2d (0 : Int64)) = d22 at Y22 ⊢
      show own_Go p e below _ (T20.setTop (mkF m 278 #[iv p0, oJ q1, oS, oJ q2, oS, iv p3, iv (1 : Int32), iv (if (p0 &&& (4 : Int32)) = (0 : Int32) then (0 : Int32) else (1 : Int32)), iv qq, iv r0, iv r1, iv r2, iv w0, iv w1, iv w2, rv b11, rv b12, oJ (0 : Int64), oS, oD x_20, oS] [(.double d22), (.double d21)]))
      refine own_by (fun t k => XS.dcmpS X20.here hx rfl (hb hby at_278) rfl (v := (0 : Int32)) (own_dcmp Y21 Y22 (show (0 : Int) = (0 : Int64).toInt by decide) .l) k) ?_
      show own_Go p e below _ (T20.setTop (mkF m 279 #[iv p0, oJ q1, oS, oJ q2, oS, iv p3, iv (1 : Int32), iv (if (p0 &&& (4 : Int32)) = (0 : Int32) then (0 : Int32) else (1 : Int32)), iv qq, iv r0, iv r1, iv r2, iv w0, iv w1, iv w2, rv b11, rv b12, oJ (0 : Int64), oS, oD x_20, oS] [(.int (0 : Int32))]))
      refine own_by (B := T20.setTop (mkF m 287 #[iv p0, oJ q1, oS, oJ q2, oS, iv p3, iv (1 : Int32), iv (if (p0 &&& (4 : Int32)) = (0 : Int32) then (0 : Int32) else (1 : Int32)), iv qq, iv r0, iv r1, iv r2, iv w0, iv w1, iv w2, rv b11, rv b12, oJ (0 : Int64), oS, oD x_20, oS] [(.int (1 : Int32))])) (fun t k => ?_) ?_
      · show Steps p.tables e below (T20.setTop (mkF m 279 #[iv p0, oJ q1, oS, oJ q2, oS, iv p3, iv (1 : Int32), iv (if (p0 &&& (4 : Int32)) = (0 : Int32) then (0 : Int32) else (1 : Int32)), iv qq, iv r0, iv r1, iv r2, iv w0, iv w1, iv w2, rv b11, rv b12, oJ (0 : Int64), oS, oD x_20, oS] [(.int (0 : Int32))])) _
        refine XS.ifNo X20.here hx rfl (hb hby at_279) rfl ((if0 _ _).trans (teq (by decide : (0 : Int32) = (0 : Int32))).2) ?_
        show Steps p.tables e below (T20.setTop (mkF m 282 #[iv p0, oJ q1, oS, oJ q2, oS, iv p3, iv (1 : Int32), iv (if (p0 &&& (4 : Int32)) = (0 : Int32) then (0 : Int32) else (1 : Int32)), iv qq, iv r0, iv r1, iv r2, iv w0, iv w1, iv w2, rv b11, rv b12, oJ (0 : Int64), oS, oD x_20, oS] [])) _
        refine XS.iconst X20.here hx rfl (hb hby at_282) ?_
        show Steps p.tables e below (T20.setTop (mkF m 283 #[iv p0, oJ q1, oS, oJ q2, oS, iv p3, iv (1 : Int32), iv (if (p0 &&& (4 : Int32)) = (0 : Int32) then (0 : Int32) else (1 : Int32)), iv qq, iv r0, iv r1, iv r2, iv w0, iv w1, iv w2, rv b11, rv b12, oJ (0 : Int64), oS, oD x_20, oS] [(.int (1 : Int32))])) _
        refine XS.goto X20.here hx rfl (pc0 := 283) (pc' := 287) rfl (hb hby at_283) (by decide) (by decide) ?_
        show Steps p.tables e below (T20.setTop (mkF m 287 #[iv p0, oJ q1, oS, oJ q2, oS, iv p3, iv (1 : Int32), iv (if (p0 &&& (4 : Int32)) = (0 : Int32) then (0 : Int32) else (1 : Int32)), iv qq, iv r0, iv r1, iv r2, iv w0, iv w1, iv w2, rv b11, rv b12, oJ (0 : Int64), oS, oD x_20, oS] [(.int (1 : Int32))])) _
        exact k
      exact own_retN X20 Bd.notSynchronized hx (t := .boolean) Bd.returns (by simp) (hb hby at_287) (by
          try rw [show T20.heap = h17 from e20]
          exact ⟨rfl, N0⟩) (by decide) (by decide)
    · skip
      refine own_by (fun t k => XS.ifNo X17.here hx rfl (hb hby at_195) rfl ((if0 _ _).trans (feq hc18).1) k) ?_
      show own_Go p e below _ (T17.setTop (mkF m 198 #[iv p0, oJ q1, oS, oJ q2, oS, iv p3, iv (1 : Int32), iv (if (p0 &&& (4 : Int32)) = (0 : Int32) then (0 : Int32) else (1 : Int32)), iv qq, iv r0, iv r1, iv r2, iv w0, iv w1, iv w2, rv b11, rv b12, oJ (0 : Int64), oS, oU, oU] []))
      refine own_by (B := T17.setTop (mkF m 264 #[iv p0, oJ q1, oS, oJ q2, oS, iv p3, iv (1 : Int32), iv (if (p0 &&& (4 : Int32)) = (0 : Int32) then (0 : Int32) else (1 : Int32)), iv qq, iv r0, iv r1, iv r2, iv w0, iv w1, iv w2, rv b11, rv b12, oJ ((w0.toInt64) * (r0.toInt64)), oS, oU, oU] [(.int qq), (.ref b12), (.ref b11)])) (fun t k => ?_) ?_
      · show Steps p.tables e below (T17.setTop (mkF m 198 #[iv p0, oJ q1, oS, oJ q2, oS, iv p3, iv (1 : Int32), iv (if (p0 &&& (4 : Int32)) = (0 : Int32) then (0 : Int32) else (1 : Int32)), iv qq, iv r0, iv r1, iv r2, iv w0, iv w1, iv w2, rv b11, rv b12, oJ (0 : Int64), oS, oU, oU] [])) _
        refine XS.lload X17.here hx rfl (hb hby at_198) rfl ?_
        show Steps p.tables e below (T17.setTop (mkF m 200 #[iv p0, oJ q1, oS, oJ q2, oS, iv p3, iv (1 : Int32), iv (if (p0 &&& (4 : Int32)) = (0 : Int32) then (0 : Int32) else (1 : Int32)), iv qq, iv r0, iv r1, iv r2, iv w0, iv w1, iv w2, rv b11, rv b12, oJ (0 : Int64), oS, oU, oU] [(.long (0 : Int64))])) _
        refine XS.iload X17.here hx rfl (hb hby at_200) rfl ?_
        show Steps p.tables e below (T17.setTop (mkF m 202 #[iv p0, oJ q1, oS, oJ q2, oS, iv p3, iv (1 : Int32), iv (if (p0 &&& (4 : Int32)) = (0 : Int32) then (0 : Int32) else (1 : Int32)), iv qq, iv r0, iv r1, iv r2, iv w0, iv w1, iv w2, rv b11, rv b12, oJ (0 : Int64), oS, oU, oU] [(.int w0), (.long (0 : Int64))])) _
        refine XS.i2l X17.here hx rfl (hb hby at_202) rfl ?_
        show Steps p.tables e below (T17.setTop (mkF m 203 #[iv p0, oJ q1, oS, oJ q2, oS, iv p3, iv (1 : Int32), iv (if (p0 &&& (4 : Int32)) = (0 : Int32) then (0 : Int32) else (1 : Int32)), iv qq, iv r0, iv r1, iv r2, iv w0, iv w1, iv w2, rv b11, rv b12, oJ (0 : Int64), oS, oU, oU] [(.long (w0.toInt64)), (.long (0 : Int64))])) _
        refine XS.iload X17.here hx rfl (hb hby at_203) rfl ?_
        show Steps p.tables e below (T17.setTop (mkF m 205 #[iv p0, oJ q1, oS, oJ q2, oS, iv p3, iv (1 : Int32), iv (if (p0 &&& (4 : Int32)) = (0 : Int32) then (0 : Int32) else (1 : Int32)), iv qq, iv r0, iv r1, iv r2, iv w0, iv w1, iv w2, rv b11, rv b12, oJ (0 : Int64), oS, oU, oU] [(.int r0), (.long (w0.toInt64)), (.long (0 : Int64))])) _
        refine XS.i2l X17.here hx rfl (hb hby at_205) rfl ?_
        show Steps p.tables e below (T17.setTop (mkF m 206 #[iv p0, oJ q1, oS, oJ q2, oS, iv p3, iv (1 : Int32), iv (if (p0 &&& (4 : Int32)) = (0 : Int32) then (0 : Int32) else (1 : Int32)), iv qq, iv r0, iv r1, iv r2, iv w0, iv w1, iv w2, rv b11, rv b12, oJ (0 : Int64), oS, oU, oU] [(.long (r0.toInt64)), (.long (w0.toInt64)), (.long (0 : Int64))])) _
        refine XS.lmul X17.here hx rfl (hb hby at_206) rfl ?_
        show Steps p.tables e below (T17.setTop (mkF m 207 #[iv p0, oJ q1, oS, oJ q2, oS, iv p3, iv (1 : Int32), iv (if (p0 &&& (4 : Int32)) = (0 : Int32) then (0 : Int32) else (1 : Int32)), iv qq, iv r0, iv r1, iv r2, iv w0, iv w1, iv w2, rv b11, rv b12, oJ (0 : Int64), oS, oU, oU] [(.long ((w0.toInt64) * (r0.toInt64))), (.long (0 : Int64))])) _
        refine XS.ladd X17.here hx rfl (hb hby at_207) rfl ?_
        rw [Int64.zero_add]
        show Steps p.tables e below (T17.setTop (mkF m 208 #[iv p0, oJ q1, oS, oJ q2, oS, iv p3, iv (1 : Int32), iv (if (p0 &&& (4 : Int32)) = (0 : Int32) then (0 : Int32) else (1 : Int32)), iv qq, iv r0, iv r1, iv r2, iv w0, iv w1, iv w2, rv b11, rv b12, oJ (0 : Int64), oS, oU, oU] [(.long ((w0.toInt64) * (r0.toInt64)))])) _
        refine XS.lstore X17.here hx rfl (hb hby at_208) rfl (l' := #[iv p0, oJ q1, oS, oJ q2, oS, iv p3, iv (1 : Int32), iv (if (p0 &&& (4 : Int32)) = (0 : Int32) then (0 : Int32) else (1 : Int32)), iv qq, iv r0, iv r1, iv r2, iv w0, iv w1, iv w2, rv b11, rv b12, oJ ((w0.toInt64) * (r0.toInt64)), oS, oU, oU]) rfl ?_
        show Steps p.tables e below (T17.setTop (mkF m 210 #[iv p0, oJ q1, oS, oJ q2, oS, iv p3, iv (1 : Int32), iv (if (p0 &&& (4 : Int32)) = (0 : Int32) then (0 : Int32) else (1 : Int32)), iv qq, iv r0, iv r1, iv r2, iv w0, iv w1, iv w2, rv b11, rv b12, oJ ((w0.toInt64) * (r0.toInt64)), oS, oU, oU] [])) _
        refine XS.iload X17.here hx rfl (hb hby at_210) rfl ?_
        show Steps p.tables e below (T17.setTop (mkF m 212 #[iv p0, oJ q1, oS, oJ q2, oS, iv p3, iv (1 : Int32), iv (if (p0 &&& (4 : Int32)) = (0 : Int32) then (0 : Int32) else (1 : Int32)), iv qq, iv r0, iv r1, iv r2, iv w0, iv w1, iv w2, rv b11, rv b12, oJ ((w0.toInt64) * (r0.toInt64)), oS, oU, oU] [(.int (1 : Int32))])) _
        refine XS.iconst X17.here hx rfl (hb hby at_212) ?_
        show Steps p.tables e below (T17.setTop (mkF m 213 #[iv p0, oJ q1, oS, oJ q2, oS, iv p3, iv (1 : Int32), iv (if (p0 &&& (4 : Int32)) = (0 : Int32) then (0 : Int32) else (1 : Int32)), iv qq, iv r0, iv r1, iv r2, iv w0, iv w1, iv w2, rv b11, rv b12, oJ ((w0.toInt64) * (r0.toInt64)), oS, oU, oU] [(.int (1 : Int32)), (.int (1 : Int32))])) _
        refine XS.icmpYes X17.here hx rfl (pc0 := 213) (pc' := 234) rfl (hb hby at_213) rfl (flt (by decide : ¬ ((1 : Int32) < (1 : Int32)))).2.2.2 (by decide) (by decide) ?_
        show Steps p.tables e below (T17.setTop (mkF m 234 #[iv p0, oJ q1, oS, oJ q2, oS, iv p3, iv (1 : Int32), iv (if (p0 &&& (4 : Int32)) = (0 : Int32) then (0 : Int32) else (1 : Int32)), iv qq, iv r0, iv r1, iv r2, iv w0, iv w1, iv w2, rv b11, rv b12, oJ ((w0.toInt64) * (r0.toInt64)), oS, oU, oU] [])) _
        refine XS.iload X17.here hx rfl (hb hby at_234) rfl ?_
        show Steps p.tables e below (T17.setTop (mkF m 236 #[iv p0, oJ q1, oS, oJ q2, oS, iv p3, iv (1 : Int32), iv (if (p0 &&& (4 : Int32)) = (0 : Int32) then (0 : Int32) else (1 : Int32)), iv qq, iv r0, iv r1, iv r2, iv w0, iv w1, iv w2, rv b11, rv b12, oJ ((w0.toInt64) * (r0.toInt64)), oS, oU, oU] [(.int (1 : Int32))])) _
        refine XS.iconst X17.here hx rfl (hb hby at_236) ?_
        show Steps p.tables e below (T17.setTop (mkF m 237 #[iv p0, oJ q1, oS, oJ q2, oS, iv p3, iv (1 : Int32), iv (if (p0 &&& (4 : Int32)) = (0 : Int32) then (0 : Int32) else (1 : Int32)), iv qq, iv r0, iv r1, iv r2, iv w0, iv w1, iv w2, rv b11, rv b12, oJ ((w0.toInt64) * (r0.toInt64)), oS, oU, oU] [(.int (2 : Int32)), (.int (1 : Int32))])) _
        refine XS.icmpYes X17.here hx rfl (pc0 := 237) (pc' := 258) rfl (hb hby at_237) rfl (flt (by decide : ¬ ((2 : Int32) < (1 : Int32)))).2.2.2 (by decide) (by decide) ?_
        show Steps p.tables e below (T17.setTop (mkF m 258 #[iv p0, oJ q1, oS, oJ q2, oS, iv p3, iv (1 : Int32), iv (if (p0 &&& (4 : Int32)) = (0 : Int32) then (0 : Int32) else (1 : Int32)), iv qq, iv r0, iv r1, iv r2, iv w0, iv w1, iv w2, rv b11, rv b12, oJ ((w0.toInt64) * (r0.toInt64)), oS, oU, oU] [])) _
        refine XS.aload X17.here hx rfl (hb hby at_258) rfl rfl ?_
        show Steps p.tables e below (T17.setTop (mkF m 260 #[iv p0, oJ q1, oS, oJ q2, oS, iv p3, iv (1 : Int32), iv (if (p0 &&& (4 : Int32)) = (0 : Int32) then (0 : Int32) else (1 : Int32)), iv qq, iv r0, iv r1, iv r2, iv w0, iv w1, iv w2, rv b11, rv b12, oJ ((w0.toInt64) * (r0.toInt64)), oS, oU, oU] [(.ref b11)])) _
        refine XS.aload X17.here hx rfl (hb hby at_260) rfl rfl ?_
        show Steps p.tables e below (T17.setTop (mkF m 262 #[iv p0, oJ q1, oS, oJ q2, oS, iv p3, iv (1 : Int32), iv (if (p0 &&& (4 : Int32)) = (0 : Int32) then (0 : Int32) else (1 : Int32)), iv qq, iv r0, iv r1, iv r2, iv w0, iv w1, iv w2, rv b11, rv b12, oJ ((w0.toInt64) * (r0.toInt64)), oS, oU, oU] [(.ref b12), (.ref b11)])) _
        refine XS.iload X17.here hx rfl (hb hby at_262) rfl ?_
        show Steps p.tables e below (T17.setTop (mkF m 264 #[iv p0, oJ q1, oS, oJ q2, oS, iv p3, iv (1 : Int32), iv (if (p0 &&& (4 : Int32)) = (0 : Int32) then (0 : Int32) else (1 : Int32)), iv qq, iv r0, iv r1, iv r2, iv w0, iv w1, iv w2, rv b11, rv b12, oJ ((w0.toInt64) * (r0.toInt64)), oS, oU, oU] [(.int qq), (.ref b12), (.ref b11)])) _
        exact k
      refine own_cc (own_callS X17 hx hZ (y := (⟨"com/example/rivulet/rivulet/flow/Flow", "expected", "([D[DI)D"⟩ : MethodName)) hown (hw _ (List.mem_of_getElem? (i := 3) rfl)) (hw _ (List.mem_of_getElem? (i := 4) rfl)) (hw _ (List.mem_of_getElem? (i := 5) rfl)) (hw _ (List.mem_of_getElem? (i := 6) rfl)) (by decide) (rm1_1n l Z a0 hw [] b11 b12 qq k11 k12 d14 d16 r0.toInt w0.toInt h17 n0 Z0 V_b11 V_b12 Y14 Y16 (fun q => hc18 q.symm)) e17 0 (by decide) (by decide) (by decide) (by decide) rfl (by rw [hml]; rfl) [(.ref b11), (.ref b12), (.int qq)] [] rfl (lenOf pd_0 rfl) rfl (by show 2 * 0 + _ ≤ _; exact Nat.le_of_eq rfl) (hb hby at_264)) fun T26 L26 v26 X26 hQ26 => ?_
      obtain ⟨x_26, rfl, N26, e26, YX'⟩ := hQ26
      replace N0 := Fr.app N0 N26
      have YX := YX'
      show own_Go p e below _ (T26.setTop (mkF m 267 #[iv p0, oJ q1, oS, oJ q2, oS, iv p3, iv (1 : Int32), iv (if (p0 &&& (4 : Int32)) = (0 : Int32) then (0 : Int32) else (1 : Int32)), iv qq, iv r0, iv r1, iv r2, iv w0, iv w1, iv w2, rv b11, rv b12, oJ ((w0.toInt64) * (r0.toInt64)), oS, oU, oU] [(.double x_26)]))
      refine own_by (B := T26.setTop (mkF m 274 #[iv p0, oJ q1, oS, oJ q2, oS, iv p3, iv (1 : Int32), iv (if (p0 &&& (4 : Int32)) = (0 : Int32) then (0 : Int32) else (1 : Int32)), iv qq, iv r0, iv r1, iv r2, iv w0, iv w1, iv w2, rv b11, rv b12, oJ ((w0.toInt64) * (r0.toInt64)), oS, oD x_26, oS] [(.double (4652218415073722368 : UInt64)), (.double x_26)])) (fun t k => ?_) ?_
      · show Steps p.tables e below (T26.setTop (mkF m 267 #[iv p0, oJ q1, oS, oJ q2, oS, iv p3, iv (1 : Int32), iv (if (p0 &&& (4 : Int32)) = (0 : Int32) then (0 : Int32) else (1 : Int32)), iv qq, iv r0, iv r1, iv r2, iv w0, iv w1, iv w2, rv b11, rv b12, oJ ((w0.toInt64) * (r0.toInt64)), oS, oU, oU] [(.double x_26)])) _
        refine XS.dstore X26.here hx rfl (hb hby at_267) rfl (l' := #[iv p0, oJ q1, oS, oJ q2, oS, iv p3, iv (1 : Int32), iv (if (p0 &&& (4 : Int32)) = (0 : Int32) then (0 : Int32) else (1 : Int32)), iv qq, iv r0, iv r1, iv r2, iv w0, iv w1, iv w2, rv b11, rv b12, oJ ((w0.toInt64) * (r0.toInt64)), oS, oD x_26, oS]) rfl ?_
        show Steps p.tables e below (T26.setTop (mkF m 269 #[iv p0, oJ q1, oS, oJ q2, oS, iv p3, iv (1 : Int32), iv (if (p0 &&& (4 : Int32)) = (0 : Int32) then (0 : Int32) else (1 : Int32)), iv qq, iv r0, iv r1, iv r2, iv w0, iv w1, iv w2, rv b11, rv b12, oJ ((w0.toInt64) * (r0.toInt64)), oS, oD x_26, oS] [])) _
        refine XS.dload X26.here hx rfl (hb hby at_269) rfl ?_
        show Steps p.tables e below (T26.setTop (mkF m 271 #[iv p0, oJ q1, oS, oJ q2, oS, iv p3, iv (1 : Int32), iv (if (p0 &&& (4 : Int32)) = (0 : Int32) then (0 : Int32) else (1 : Int32)), iv qq, iv r0, iv r1, iv r2, iv w0, iv w1, iv w2, rv b11, rv b12, oJ ((w0.toInt64) * (r0.toInt64)), oS, oD x_26, oS] [(.double x_26)])) _
        refine X26.ldc2DoubleC hx hown (mvT hZ (hw _ (List.mem_of_getElem? (i := 7) rfl))) (g := (mkF m 271 #[iv p0, oJ q1, oS, oJ q2, oS, iv p3, iv (1 : Int32), iv (if (p0 &&& (4 : Int32)) = (0 : Int32) then (0 : Int32) else (1 : Int32)), iv qq, iv r0, iv r1, iv r2, iv w0, iv w1, iv w2, rv b11, rv b12, oJ ((w0.toInt64) * (r0.toInt64)), oS, oD x_26, oS] [(.double x_26)])) rfl (hb hby at_271) _ ?_
        show Steps p.tables e below (T26.setTop (mkF m 274 #[iv p0, oJ q1, oS, oJ q2, oS, iv p3, iv (1 : Int32), iv (if (p0 &&& (4 : Int32)) = (0 : Int32) then (0 : Int32) else (1 : Int32)), iv qq, iv r0, iv r1, iv r2, iv w0, iv w1, iv w2, rv b11, rv b12, oJ ((w0.toInt64) * (r0.toInt64)), oS, oD x_26, oS] [(.double (4652218415073722368 : UInt64)), (.double x_26)])) _
        exact k
      have Y27 : own_Di (0 + (w0.toInt * r0.toInt)) 33554432 (FP.dmul x_26 (4652218415073722368 : UInt64)) := (own_dback YX (by decide))
      refine own_by (fun t k => XS.dmulS X26.here hx rfl (hb hby at_274) rfl (own_nnI Y27) rfl k) ?_
      generalize (FP.dmul x_26 (4652218415073722368 : UInt64)) = d27 at Y27 ⊢
      show own_Go p e below _ (T26.setTop (mkF m 275 #[iv p0, oJ q1, oS, oJ q2, oS, iv p3, iv (1 : Int32), iv (if (p0 &&& (4 : Int32)) = (0 : Int32) then (0 : Int32) else (1 : Int32)), iv qq, iv r0, iv r1, iv r2, iv w0, iv w1, iv w2, rv b11, rv b12, oJ ((w0.toInt64) * (r0.toInt64)), oS, oD x_26, oS] [(.double d27)]))
      refine own_by (B := T26.setTop (mkF m 277 #[iv p0, oJ q1, oS, oJ q2, oS, iv p3, iv (1 : Int32), iv (if (p0 &&& (4 : Int32)) = (0 : Int32) then (0 : Int32) else (1 : Int32)), iv qq, iv r0, iv r1, iv r2, iv w0, iv w1, iv w2, rv b11, rv b12, oJ ((w0.toInt64) * (r0.toInt64)), oS, oD x_26, oS] [(.long ((w0.toInt64) * (r0.toInt64))), (.double d27)])) (fun t k => ?_) ?_
      · show Steps p.tables e below (T26.setTop (mkF m 275 #[iv p0, oJ q1, oS, oJ q2, oS, iv p3, iv (1 : Int32), iv (if (p0 &&& (4 : Int32)) = (0 : Int32) then (0 : Int32) else (1 : Int32)), iv qq, iv r0, iv r1, iv r2, iv w0, iv w1, iv w2, rv b11, rv b12, oJ ((w0.toInt64) * (r0.toInt64)), oS, oD x_26, oS] [(.double d27)])) _
        refine XS.lload X26.here hx rfl (hb hby at_275) rfl ?_
        show Steps p.tables e below (T26.setTop (mkF m 277 #[iv p0, oJ q1, oS, oJ q2, oS, iv p3, iv (1 : Int32), iv (if (p0 &&& (4 : Int32)) = (0 : Int32) then (0 : Int32) else (1 : Int32)), iv qq, iv r0, iv r1, iv r2, iv w0, iv w1, iv w2, rv b11, rv b12, oJ ((w0.toInt64) * (r0.toInt64)), oS, oD x_26, oS] [(.long ((w0.toInt64) * (r0.toInt64))), (.double d27)])) _
        exact k
      have t29_0 := own_pr w0 r0 bw0 br0
      have Y28 : own_Di ((w0.toInt64) * (r0.toInt64)).toInt 33554432 (FP.l2d ((w0.toInt64) * (r0.toInt64))) := (own_l2d ((w0.toInt64) * (r0.toInt64)) 33554432 t29_0.2 (by decide))
      refine own_by (fun t k => XS.l2dS X26.here hx rfl (hb hby at_277) rfl rfl k) ?_
      generalize (FP.l2d ((w0.toInt64) * (r0.toInt64))) = d28 at Y28 ⊢
      show own_Go p e below _ (T26.setTop (mkF m 278 #[iv p0, oJ q1, oS, oJ q2, oS, iv p3, iv (1 : Int32), iv (if (p0 &&& (4 : Int32)) = (0 : Int32) then (0 : Int32) else (1 : Int32)), iv qq, iv r0, iv r1, iv r2, iv w0, iv w1, iv w2, rv b11, rv b12, oJ ((w0.toInt64) * (r0.toInt64)), oS, oD x_26, oS] [(.double d28), (.double d27)]))
      refine own_by (fun t k => XS.dcmpS X26.here hx rfl (hb hby at_278) rfl (v := (0 : Int32)) (own_dcmp Y27 Y28 (by simp only [Int.zero_add, t29_0.1]) .l) k) ?_
      show own_Go p e below _ (T26.setTop (mkF m 279 #[iv p0, oJ q1, oS, oJ q2, oS, iv p3, iv (1 : Int32), iv (if (p0 &&& (4 : Int32)) = (0 : Int32) then (0 : Int32) else (1 : Int32)), iv qq, iv r0, iv r1, iv r2, iv w0, iv w1, iv w2, rv b11, rv b12, oJ ((w0.toInt64) * (r0.toInt64)), oS, oD x_26, oS] [(.int (0 : Int32))]))
      refine own_by (B := T26.setTop (mkF m 287 #[iv p0, oJ q1, oS, oJ q2, oS, iv p3, iv (1 : Int32), iv (if (p0 &&& (4 : Int32)) = (0 : Int32) then (0 : Int32) else (1 : Int32)), iv qq, iv r0, iv r1, iv r2, iv w0, iv w1, iv w2, rv b11, rv b12, oJ ((w0.toInt64) * (r0.toInt64)), oS, oD x_26, oS] [(.int (1 : Int32))])) (fun t k => ?_) ?_
      · show Steps p.tables e below (T26.setTop (mkF m 279 #[iv p0, oJ q1, oS, oJ q2, oS, iv p3, iv (1 : Int32), iv (if (p0 &&& (4 : Int32)) = (0 : Int32) then (0 : Int32) else (1 : Int32)), iv qq, iv r0, iv r1, iv r2, iv w0, iv w1, iv w2, rv b11, rv b12, oJ ((w0.toInt64) * (r0.toInt64)), oS, oD x_26, oS] [(.int (0 : Int32))])) _
        refine XS.ifNo X26.here hx rfl (hb hby at_279) rfl ((if0 _ _).trans (teq (by decide : (0 : Int32) = (0 : Int32))).2) ?_
        show Steps p.tables e below (T26.setTop (mkF m 282 #[iv p0, oJ q1, oS, oJ q2, oS, iv p3, iv (1 : Int32), iv (if (p0 &&& (4 : Int32)) = (0 : Int32) then (0 : Int32) else (1 : Int32)), iv qq, iv r0, iv r1, iv r2, iv w0, iv w1, iv w2, rv b11, rv b12, oJ ((w0.toInt64) * (r0.toInt64)), oS, oD x_26, oS] [])) _
        refine XS.iconst X26.here hx rfl (hb hby at_282) ?_
        show Steps p.tables e below (T26.setTop (mkF m 283 #[iv p0, oJ q1, oS, oJ q2, oS, iv p3, iv (1 : Int32), iv (if (p0 &&& (4 : Int32)) = (0 : Int32) then (0 : Int32) else (1 : Int32)), iv qq, iv r0, iv r1, iv r2, iv w0, iv w1, iv w2, rv b11, rv b12, oJ ((w0.toInt64) * (r0.toInt64)), oS, oD x_26, oS] [(.int (1 : Int32))])) _
        refine XS.goto X26.here hx rfl (pc0 := 283) (pc' := 287) rfl (hb hby at_283) (by decide) (by decide) ?_
        show Steps p.tables e below (T26.setTop (mkF m 287 #[iv p0, oJ q1, oS, oJ q2, oS, iv p3, iv (1 : Int32), iv (if (p0 &&& (4 : Int32)) = (0 : Int32) then (0 : Int32) else (1 : Int32)), iv qq, iv r0, iv r1, iv r2, iv w0, iv w1, iv w2, rv b11, rv b12, oJ ((w0.toInt64) * (r0.toInt64)), oS, oD x_26, oS] [(.int (1 : Int32))])) _
        exact k
      exact own_retN X26 Bd.notSynchronized hx (t := .boolean) Bd.returns (by simp) (hb hby at_287) (by
          try rw [show T26.heap = h17 from e26]
          exact ⟨rfl, N0⟩) (by decide) (by decide)
  · simp only [hk]
    show own_Go p e below _ (s₁.setTop (mkF m 104 #[iv p0, oJ q1, oS, oJ q2, oS, iv p3, iv (2 : Int32), iv (if (p0 &&& (4 : Int32)) = (0 : Int32) then (0 : Int32) else (1 : Int32)), iv qq, iv r0, iv r1, iv r2, iv w0, iv w1, iv w2, oU, oU, oU, oU, oU, oU] [(.int (2 : Int32))]))
    have br0 : r0.toInt.natAbs ≤ 1024 := by rw [← hr0]; exact own_r _
    have bw0 : w0.toInt.natAbs ≤ 32768 := by rw [← hw0]; exact own_w _
    have br1 : r1.toInt.natAbs ≤ 1024 := by rw [← hr1]; exact own_r _
    have bw1 : w1.toInt.natAbs ≤ 32768 := by rw [← hw1]; exact own_w _
    have br2 : r2.toInt.natAbs ≤ 1024 := by rw [← hr2]; exact own_r _
    have bw2 : w2.toInt.natAbs ≤ 32768 := by rw [← hw2]; exact own_w _
    obtain ⟨T31, h31, k31, X31, e31, E31, A31, st31⟩ := newP X0 hx hZ (hw _ (List.mem_of_getElem? (i := 2) rfl)) e0 (g := (mkF m 104 #[iv p0, oJ q1, oS, oJ q2, oS, iv p3, iv (2 : Int32), iv (if (p0 &&& (4 : Int32)) = (0 : Int32) then (0 : Int32) else (1 : Int32)), iv qq, iv r0, iv r1, iv r2, iv w0, iv w1, iv w2, oU, oU, oU, oU, oU, oU] [(.int (2 : Int32))])) rfl (hb hby at_104) rfl (by decide) (cap := 2) (by decide) (by decide) (by decide) (by decide)
    obtain ⟨b31, g31⟩ : ∃ z, z = h0.size := ⟨_, rfl⟩
    rw [← g31] at A31 st31
    have g_b31 : n0 ≤ b31 := Nat.le_trans Z0 (Nat.le_of_eq g31.symm)
    replace Z0 := Nat.le_trans Z0 E31.1
    have V_b31 : Arv Z h31 b31 k31 .double (2 : Int32) [] (.double (0 : UInt64)) := Arv.new A31 (by decide)
    refine own_by st31 ?_
    show own_Go p e below _ (T31.setTop (mkF m 106 #[iv p0, oJ q1, oS, oJ q2, oS, iv p3, iv (2 : Int32), iv (if (p0 &&& (4 : Int32)) = (0 : Int32) then (0 : Int32) else (1 : Int32)), iv qq, iv r0, iv r1, iv r2, iv w0, iv w1, iv w2, oU, oU, oU, oU, oU, oU] [(.ref b31)]))
    refine own_by (B := T31.setTop (mkF m 110 #[iv p0, oJ q1, oS, oJ q2, oS, iv p3, iv (2 : Int32), iv (if (p0 &&& (4 : Int32)) = (0 : Int32) then (0 : Int32) else (1 : Int32)), iv qq, iv r0, iv r1, iv r2, iv w0, iv w1, iv w2, rv b31, oU, oU, oU, oU, oU] [(.int (2 : Int32))])) (fun t k => ?_) ?_
    · show Steps p.tables e below (T31.setTop (mkF m 106 #[iv p0, oJ q1, oS, oJ q2, oS, iv p3, iv (2 : Int32), iv (if (p0 &&& (4 : Int32)) = (0 : Int32) then (0 : Int32) else (1 : Int32)), iv qq, iv r0, iv r1, iv r2, iv w0, iv w1, iv w2, oU, oU, oU, oU, oU, oU] [(.ref b31)])) _
      refine XS.astore X31.here hx rfl (hb hby at_106) rfl rfl (l' := #[iv p0, oJ q1, oS, oJ q2, oS, iv p3, iv (2 : Int32), iv (if (p0 &&& (4 : Int32)) = (0 : Int32) then (0 : Int32) else (1 : Int32)), iv qq, iv r0, iv r1, iv r2, iv w0, iv w1, iv w2, rv b31, oU, oU, oU, oU, oU]) rfl ?_
      show Steps p.tables e below (T31.setTop (mkF m 108 #[iv p0, oJ q1, oS, oJ q2, oS, iv p3, iv (2 : Int32), iv (if (p0 &&& (4 : Int32)) = (0 : Int32) then (0 : Int32) else (1 : Int32)), iv qq, iv r0, iv r1, iv r2, iv w0, iv w1, iv w2, rv b31, oU, oU, oU, oU, oU] [])) _
      refine XS.iload X31.here hx rfl (hb hby at_108) rfl ?_
      show Steps p.tables e below (T31.setTop (mkF m 110 #[iv p0, oJ q1, oS, oJ q2, oS, iv p3, iv (2 : Int32), iv (if (p0 &&& (4 : Int32)) = (0 : Int32) then (0 : Int32) else (1 : Int32)), iv qq, iv r0, iv r1, iv r2, iv w0, iv w1, iv w2, rv b31, oU, oU, oU, oU, oU] [(.int (2 : Int32))])) _
      exact k
    obtain ⟨T32, h32, k32, X32, e32, E32, A32, st32⟩ := newP X31 hx hZ (hw _ (List.mem_of_getElem? (i := 2) rfl)) e31 (g := (mkF m 110 #[iv p0, oJ q1, oS, oJ q2, oS, iv p3, iv (2 : Int32), iv (if (p0 &&& (4 : Int32)) = (0 : Int32) then (0 : Int32) else (1 : Int32)), iv qq, iv r0, iv r1, iv r2, iv w0, iv w1, iv w2, rv b31, oU, oU, oU, oU, oU] [(.int (2 : Int32))])) rfl (hb hby at_110) rfl (by decide) (cap := 2) (by decide) (by decide) (by decide) (by decide)
    obtain ⟨b32, g32⟩ : ∃ z, z = h31.size := ⟨_, rfl⟩
    rw [← g32] at A32 st32
    have g_b32 : n0 ≤ b32 := Nat.le_trans Z0 (Nat.le_of_eq g32.symm)
    have ne_b31_b32 : b31 ≠ b32 := Nat.ne_of_lt (Nat.lt_of_lt_of_le V_b31.lt (Nat.le_of_eq g32.symm))
    replace V_b31 := V_b31.ext E32
    replace Z0 := Nat.le_trans Z0 E32.1
    have V_b32 : Arv Z h32 b32 k32 .double (2 : Int32) [] (.double (0 : UInt64)) := Arv.new A32 (by decide)
    refine own_by st32 ?_
    show own_Go p e below _ (T32.setTop (mkF m 112 #[iv p0, oJ q1, oS, oJ q2, oS, iv p3, iv (2 : Int32), iv (if (p0 &&& (4 : Int32)) = (0 : Int32) then (0 : Int32) else (1 : Int32)), iv qq, iv r0, iv r1, iv r2, iv w0, iv w1, iv w2, rv b31, oU, oU, oU, oU, oU] [(.ref b32)]))
    refine own_by (B := T32.setTop (mkF m 124 #[iv p0, oJ q1, oS, oJ q2, oS, iv p3, iv (2 : Int32), iv (if (p0 &&& (4 : Int32)) = (0 : Int32) then (0 : Int32) else (1 : Int32)), iv qq, iv r0, iv r1, iv r2, iv w0, iv w1, iv w2, rv b31, rv b32, oU, oU, oU, oU] [(.int r0), (.int (0 : Int32)), (.ref b31)])) (fun t k => ?_) ?_
    · show Steps p.tables e below (T32.setTop (mkF m 112 #[iv p0, oJ q1, oS, oJ q2, oS, iv p3, iv (2 : Int32), iv (if (p0 &&& (4 : Int32)) = (0 : Int32) then (0 : Int32) else (1 : Int32)), iv qq, iv r0, iv r1, iv r2, iv w0, iv w1, iv w2, rv b31, oU, oU, oU, oU, oU] [(.ref b32)])) _
      refine XS.astore X32.here hx rfl (hb hby at_112) rfl rfl (l' := #[iv p0, oJ q1, oS, oJ q2, oS, iv p3, iv (2 : Int32), iv (if (p0 &&& (4 : Int32)) = (0 : Int32) then (0 : Int32) else (1 : Int32)), iv qq, iv r0, iv r1, iv r2, iv w0, iv w1, iv w2, rv b31, rv b32, oU, oU, oU, oU]) rfl ?_
      show Steps p.tables e below (T32.setTop (mkF m 114 #[iv p0, oJ q1, oS, oJ q2, oS, iv p3, iv (2 : Int32), iv (if (p0 &&& (4 : Int32)) = (0 : Int32) then (0 : Int32) else (1 : Int32)), iv qq, iv r0, iv r1, iv r2, iv w0, iv w1, iv w2, rv b31, rv b32, oU, oU, oU, oU] [])) _
      refine XS.iload X32.here hx rfl (hb hby at_114) rfl ?_
      show Steps p.tables e below (T32.setTop (mkF m 116 #[iv p0, oJ q1, oS, oJ q2, oS, iv p3, iv (2 : Int32), iv (if (p0 &&& (4 : Int32)) = (0 : Int32) then (0 : Int32) else (1 : Int32)), iv qq, iv r0, iv r1, iv r2, iv w0, iv w1, iv w2, rv b31, rv b32, oU, oU, oU, oU] [(.int (2 : Int32))])) _
      refine XS.ifNo X32.here hx rfl (hb hby at_116) rfl ((if0 _ _).trans (tlt (by decide : (0 : Int32) < (2 : Int32))).2.2.2) ?_
      show Steps p.tables e below (T32.setTop (mkF m 119 #[iv p0, oJ q1, oS, oJ q2, oS, iv p3, iv (2 : Int32), iv (if (p0 &&& (4 : Int32)) = (0 : Int32) then (0 : Int32) else (1 : Int32)), iv qq, iv r0, iv r1, iv r2, iv w0, iv w1, iv w2, rv b31, rv b32, oU, oU, oU, oU] [])) _
      refine XS.aload X32.here hx rfl (hb hby at_119) rfl rfl ?_
      show Steps p.tables e below (T32.setTop (mkF m 121 #[iv p0, oJ q1, oS, oJ q2, oS, iv p3, iv (2 : Int32), iv (if (p0 &&& (4 : Int32)) = (0 : Int32) then (0 : Int32) else (1 : Int32)), iv qq, iv r0, iv r1, iv r2, iv w0, iv w1, iv w2, rv b31, rv b32, oU, oU, oU, oU] [(.ref b31)])) _
      refine XS.iconst X32.here hx rfl (hb hby at_121) ?_
      show Steps p.tables e below (T32.setTop (mkF m 122 #[iv p0, oJ q1, oS, oJ q2, oS, iv p3, iv (2 : Int32), iv (if (p0 &&& (4 : Int32)) = (0 : Int32) then (0 : Int32) else (1 : Int32)), iv qq, iv r0, iv r1, iv r2, iv w0, iv w1, iv w2, rv b31, rv b32, oU, oU, oU, oU] [(.int (0 : Int32)), (.ref b31)])) _
      refine XS.iload X32.here hx rfl (hb hby at_122) rfl ?_
      show Steps p.tables e below (T32.setTop (mkF m 124 #[iv p0, oJ q1, oS, oJ q2, oS, iv p3, iv (2 : Int32), iv (if (p0 &&& (4 : Int32)) = (0 : Int32) then (0 : Int32) else (1 : Int32)), iv qq, iv r0, iv r1, iv r2, iv w0, iv w1, iv w2, rv b31, rv b32, oU, oU, oU, oU] [(.int r0), (.int (0 : Int32)), (.ref b31)])) _
      exact k
    have Y33 : own_Di r0.toInt 1024 (FP.i2d r0) := (own_i2d r0 1024 br0)
    refine own_by (fun t k => XS.i2dS X32.here hx rfl (hb hby at_124) rfl rfl k) ?_
    generalize (FP.i2d r0) = d33 at Y33 ⊢
    show own_Go p e below _ (T32.setTop (mkF m 125 #[iv p0, oJ q1, oS, oJ q2, oS, iv p3, iv (2 : Int32), iv (if (p0 &&& (4 : Int32)) = (0 : Int32) then (0 : Int32) else (1 : Int32)), iv qq, iv r0, iv r1, iv r2, iv w0, iv w1, iv w2, rv b31, rv b32, oU, oU, oU, oU] [(.double d33), (.int (0 : Int32)), (.ref b31)]))
    refine own_by (B := T32.setTop (mkF m 128 #[iv p0, oJ q1, oS, oJ q2, oS, iv p3, iv (2 : Int32), iv (if (p0 &&& (4 : Int32)) = (0 : Int32) then (0 : Int32) else (1 : Int32)), iv qq, iv r0, iv r1, iv r2, iv w0, iv w1, iv w2, rv b31, rv b32, oU, oU, oU, oU] [(.double (4652218415073722368 : UInt64)), (.double d33), (.int (0 : Int32)), (.ref b31)])) (fun t k => ?_) ?_
    · show Steps p.tables e below (T32.setTop (mkF m 125 #[iv p0, oJ q1, oS, oJ q2, oS, iv p3, iv (2 : Int32), iv (if (p0 &&& (4 : Int32)) = (0 : Int32) then (0 : Int32) else (1 : Int32)), iv qq, iv r0, iv r1, iv r2, iv w0, iv w1, iv w2, rv b31, rv b32, oU, oU, oU, oU] [(.double d33), (.int (0 : Int32)), (.ref b31)])) _
      refine X32.ldc2DoubleC hx hown (mvT hZ (hw _ (List.mem_of_getElem? (i := 7) rfl))) (g := (mkF m 125 #[iv p0, oJ q1, oS, oJ q2, oS, iv p3, iv (2 : Int32), iv (if (p0 &&& (4 : Int32)) = (0 : Int32) then (0 : Int32) else (1 : Int32)), iv qq, iv r0, iv r1, iv r2, iv w0, iv w1, iv w2, rv b31, rv b32, oU, oU, oU, oU] [(.double d33), (.int (0 : Int32)), (.ref b31)])) rfl (hb hby at_125) _ ?_
      show Steps p.tables e below (T32.setTop (mkF m 128 #[iv p0, oJ q1, oS, oJ q2, oS, iv p3, iv (2 : Int32), iv (if (p0 &&& (4 : Int32)) = (0 : Int32) then (0 : Int32) else (1 : Int32)), iv qq, iv r0, iv r1, iv r2, iv w0, iv w1, iv w2, rv b31, rv b32, oU, oU, oU, oU] [(.double (4652218415073722368 : UInt64)), (.double d33), (.int (0 : Int32)), (.ref b31)])) _
      exact k
    have Y34 : own_Dy r0.toInt 1024 (FP.ddiv d33 (4652218415073722368 : UInt64)) := (own_ddiv Y33 (by decide))
    refine own_by (fun t k => XS.ddivS X32.here hx rfl (hb hby at_128) rfl (own_nnY Y34) rfl k) ?_
    generalize (FP.ddiv d33 (4652218415073722368 : UInt64)) = d34 at Y34 ⊢
    show own_Go p e below _ (T32.setTop (mkF m 129 #[iv p0, oJ q1, oS, oJ q2, oS, iv p3, iv (2 : Int32), iv (if (p0 &&& (4 : Int32)) = (0 : Int32) then (0 : Int32) else (1 : Int32)), iv qq, iv r0, iv r1, iv r2, iv w0, iv w1, iv w2, rv b31, rv b32, oU, oU, oU, oU] [(.double d34), (.int (0 : Int32)), (.ref b31)]))
    replace V_b31 : Arv Z h32 b31 k31 .double (2 : Int32) [(.double (0 : UInt64))] (.double (0 : UInt64)) := V_b31.pad (pad_rep [] (.double (0 : UInt64)) 1)
    obtain ⟨cl35, Ar35, q35, S35, N35, H35, G35⟩ := V_b31
    have hin35 : ¬ ((0 : Int32) < 0 ∨ cl35.slots.size ≤ ((0 : Int32)).toNatClampNeg) := inb_of S35 ⟨by decide, by decide⟩
    refine own_c2 (stD X32 hx hZ e32 Ar35 (j := (0 : Int32)) hin35 rfl rfl (hb hby at_129)) fun T35 h35 X35 e35 W35 => ?_
    replace V_b31 : Arv Z h35 b31 k31 .double (2 : Int32) [(.double d34)] (.double (0 : UInt64)) := Arv.set Ar35 q35 S35 N35 H35 G35 rfl W35 0 rfl (Nat.le_of_ble_eq_true rfl)
    replace V_b32 := V_b32.other W35 (Ne.symm ne_b31_b32)
    replace Z0 := Nat.le_trans Z0 (Keep.of_wr W35).1
    replace N0 := Fr.snoc X35 N0 g_b31
    show own_Go p e below _ (T35.setTop (mkF m 130 #[iv p0, oJ q1, oS, oJ q2, oS, iv p3, iv (2 : Int32), iv (if (p0 &&& (4 : Int32)) = (0 : Int32) then (0 : Int32) else (1 : Int32)), iv qq, iv r0, iv r1, iv r2, iv w0, iv w1, iv w2, rv b31, rv b32, oU, oU, oU, oU] []))
    refine own_by (B := T35.setTop (mkF m 135 #[iv p0, oJ q1, oS, oJ q2, oS, iv p3, iv (2 : Int32), iv (if (p0 &&& (4 : Int32)) = (0 : Int32) then (0 : Int32) else (1 : Int32)), iv qq, iv r0, iv r1, iv r2, iv w0, iv w1, iv w2, rv b31, rv b32, oU, oU, oU, oU] [(.int w0), (.int (0 : Int32)), (.ref b32)])) (fun t k => ?_) ?_
    · show Steps p.tables e below (T35.setTop (mkF m 130 #[iv p0, oJ q1, oS, oJ q2, oS, iv p3, iv (2 : Int32), iv (if (p0 &&& (4 : Int32)) = (0 : Int32) then (0 : Int32) else (1 : Int32)), iv qq, iv r0, iv r1, iv r2, iv w0, iv w1, iv w2, rv b31, rv b32, oU, oU, oU, oU] [])) _
      refine XS.aload X35.here hx rfl (hb hby at_130) rfl rfl ?_
      show Steps p.tables e below (T35.setTop (mkF m 132 #[iv p0, oJ q1, oS, oJ q2, oS, iv p3, iv (2 : Int32), iv (if (p0 &&& (4 : Int32)) = (0 : Int32) then (0 : Int32) else (1 : Int32)), iv qq, iv r0, iv r1, iv r2, iv w0, iv w1, iv w2, rv b31, rv b32, oU, oU, oU, oU] [(.ref b32)])) _
      refine XS.iconst X35.here hx rfl (hb hby at_132) ?_
      show Steps p.tables e below (T35.setTop (mkF m 133 #[iv p0, oJ q1, oS, oJ q2, oS, iv p3, iv (2 : Int32), iv (if (p0 &&& (4 : Int32)) = (0 : Int32) then (0 : Int32) else (1 : Int32)), iv qq, iv r0, iv r1, iv r2, iv w0, iv w1, iv w2, rv b31, rv b32, oU, oU, oU, oU] [(.int (0 : Int32)), (.ref b32)])) _
      refine XS.iload X35.here hx rfl (hb hby at_133) rfl ?_
      show Steps p.tables e below (T35.setTop (mkF m 135 #[iv p0, oJ q1, oS, oJ q2, oS, iv p3, iv (2 : Int32), iv (if (p0 &&& (4 : Int32)) = (0 : Int32) then (0 : Int32) else (1 : Int32)), iv qq, iv r0, iv r1, iv r2, iv w0, iv w1, iv w2, rv b31, rv b32, oU, oU, oU, oU] [(.int w0), (.int (0 : Int32)), (.ref b32)])) _
      exact k
    have Y36 : own_Di w0.toInt 32768 (FP.i2d w0) := (own_i2d w0 32768 bw0)
    refine own_by (fun t k => XS.i2dS X35.here hx rfl (hb hby at_135) rfl rfl k) ?_
    generalize (FP.i2d w0) = d36 at Y36 ⊢
    show own_Go p e below _ (T35.setTop (mkF m 136 #[iv p0, oJ q1, oS, oJ q2, oS, iv p3, iv (2 : Int32), iv (if (p0 &&& (4 : Int32)) = (0 : Int32) then (0 : Int32) else (1 : Int32)), iv qq, iv r0, iv r1, iv r2, iv w0, iv w1, iv w2, rv b31, rv b32, oU, oU, oU, oU] [(.double d36), (.int (0 : Int32)), (.ref b32)]))
    replace V_b32 : Arv Z h35 b32 k32 .double (2 : Int32) [(.double (0 : UInt64))] (.double (0 : UInt64)) := V_b32.pad (pad_rep [] (.double (0 : UInt64)) 1)
    obtain ⟨cl37, Ar37, q37, S37, N37, H37, G37⟩ := V_b32
    have hin37 : ¬ ((0 : Int32) < 0 ∨ cl37.slots.size ≤ ((0 : Int32)).toNatClampNeg) := inb_of S37 ⟨by decide, by decide⟩
    refine own_c2 (stD X35 hx hZ e35 Ar37 (j := (0 : Int32)) hin37 rfl rfl (hb hby at_136)) fun T37 h37 X37 e37 W37 => ?_
    replace V_b32 : Arv Z h37 b32 k32 .double (2 : Int32) [(.double d36)] (.double (0 : UInt64)) := Arv.set Ar37 q37 S37 N37 H37 G37 rfl W37 0 rfl (Nat.le_of_ble_eq_true rfl)
    replace V_b31 := V_b31.other W37 ne_b31_b32
    replace Z0 := Nat.le_trans Z0 (Keep.of_wr W37).1
    replace N0 := Fr.snoc X37 N0 g_b32
    show own_Go p e below _ (T37.setTop (mkF m 137 #[iv p0, oJ q1, oS, oJ q2, oS, iv p3, iv (2 : Int32), iv (if (p0 &&& (4 : Int32)) = (0 : Int32) then (0 : Int32) else (1 : Int32)), iv qq, iv r0, iv r1, iv r2, iv w0, iv w1, iv w2, rv b31, rv b32, oU, oU, oU, oU] []))
    refine own_by (B := T37.setTop (mkF m 148 #[iv p0, oJ q1, oS, oJ q2, oS, iv p3, iv (2 : Int32), iv (if (p0 &&& (4 : Int32)) = (0 : Int32) then (0 : Int32) else (1 : Int32)), iv qq, iv r0, iv r1, iv r2, iv w0, iv w1, iv w2, rv b31, rv b32, oU, oU, oU, oU] [(.int r1), (.int (1 : Int32)), (.ref b31)])) (fun t k => ?_) ?_
    · show Steps p.tables e below (T37.setTop (mkF m 137 #[iv p0, oJ q1, oS, oJ q2, oS, iv p3, iv (2 : Int32), iv (if (p0 &&& (4 : Int32)) = (0 : Int32) then (0 : Int32) else (1 : Int32)), iv qq, iv r0, iv r1, iv r2, iv w0, iv w1, iv w2, rv b31, rv b32, oU, oU, oU, oU] [])) _
      refine XS.iload X37.here hx rfl (hb hby at_137) rfl ?_
      show Steps p.tables e below (T37.setTop (mkF m 139 #[iv p0, oJ q1, oS, oJ q2, oS, iv p3, iv (2 : Int32), iv (if (p0 &&& (4 : Int32)) = (0 : Int32) then (0 : Int32) else (1 : Int32)), iv qq, iv r0, iv r1, iv r2, iv w0, iv w1, iv w2, rv b31, rv b32, oU, oU, oU, oU] [(.int (2 : Int32))])) _
      refine XS.iconst X37.here hx rfl (hb hby at_139) ?_
      show Steps p.tables e below (T37.setTop (mkF m 140 #[iv p0, oJ q1, oS, oJ q2, oS, iv p3, iv (2 : Int32), iv (if (p0 &&& (4 : Int32)) = (0 : Int32) then (0 : Int32) else (1 : Int32)), iv qq, iv r0, iv r1, iv r2, iv w0, iv w1, iv w2, rv b31, rv b32, oU, oU, oU, oU] [(.int (1 : Int32)), (.int (2 : Int32))])) _
      refine XS.icmpNo X37.here hx rfl (hb hby at_140) rfl (tlt (by decide : (1 : Int32) < (2 : Int32))).2.2.2 ?_
      show Steps p.tables e below (T37.setTop (mkF m 143 #[iv p0, oJ q1, oS, oJ q2, oS, iv p3, iv (2 : Int32), iv (if (p0 &&& (4 : Int32)) = (0 : Int32) then (0 : Int32) else (1 : Int32)), iv qq, iv r0, iv r1, iv r2, iv w0, iv w1, iv w2, rv b31, rv b32, oU, oU, oU, oU] [])) _
      refine XS.aload X37.here hx rfl (hb hby at_143) rfl rfl ?_
      show Steps p.tables e below (T37.setTop (mkF m 145 #[iv p0, oJ q1, oS, oJ q2, oS, iv p3, iv (2 : Int32), iv (if (p0 &&& (4 : Int32)) = (0 : Int32) then (0 : Int32) else (1 : Int32)), iv qq, iv r0, iv r1, iv r2, iv w0, iv w1, iv w2, rv b31, rv b32, oU, oU, oU, oU] [(.ref b31)])) _
      refine XS.iconst X37.here hx rfl (hb hby at_145) ?_
      show Steps p.tables e below (T37.setTop (mkF m 146 #[iv p0, oJ q1, oS, oJ q2, oS, iv p3, iv (2 : Int32), iv (if (p0 &&& (4 : Int32)) = (0 : Int32) then (0 : Int32) else (1 : Int32)), iv qq, iv r0, iv r1, iv r2, iv w0, iv w1, iv w2, rv b31, rv b32, oU, oU, oU, oU] [(.int (1 : Int32)), (.ref b31)])) _
      refine XS.iload X37.here hx rfl (hb hby at_146) rfl ?_
      show Steps p.tables e below (T37.setTop (mkF m 148 #[iv p0, oJ q1, oS, oJ q2, oS, iv p3, iv (2 : Int32), iv (if (p0 &&& (4 : Int32)) = (0 : Int32) then (0 : Int32) else (1 : Int32)), iv qq, iv r0, iv r1, iv r2, iv w0, iv w1, iv w2, rv b31, rv b32, oU, oU, oU, oU] [(.int r1), (.int (1 : Int32)), (.ref b31)])) _
      exact k
    have Y38 : own_Di r1.toInt 1024 (FP.i2d r1) := (own_i2d r1 1024 br1)
    refine own_by (fun t k => XS.i2dS X37.here hx rfl (hb hby at_148) rfl rfl k) ?_
    generalize (FP.i2d r1) = d38 at Y38 ⊢
    show own_Go p e below _ (T37.setTop (mkF m 149 #[iv p0, oJ q1, oS, oJ q2, oS, iv p3, iv (2 : Int32), iv (if (p0 &&& (4 : Int32)) = (0 : Int32) then (0 : Int32) else (1 : Int32)), iv qq, iv r0, iv r1, iv r2, iv w0, iv w1, iv w2, rv b31, rv b32, oU, oU, oU, oU] [(.double d38), (.int (1 : Int32)), (.ref b31)]))
    refine own_by (B := T37.setTop (mkF m 152 #[iv p0, oJ q1, oS, oJ q2, oS, iv p3, iv (2 : Int32), iv (if (p0 &&& (4 : Int32)) = (0 : Int32) then (0 : Int32) else (1 : Int32)), iv qq, iv r0, iv r1, iv r2, iv w0, iv w1, iv w2, rv b31, rv b32, oU, oU, oU, oU] [(.double (4652218415073722368 : UInt64)), (.double d38), (.int (1 : Int32)), (.ref b31)])) (fun t k => ?_) ?_
    · show Steps p.tables e below (T37.setTop (mkF m 149 #[iv p0, oJ q1, oS, oJ q2, oS, iv p3, iv (2 : Int32), iv (if (p0 &&& (4 : Int32)) = (0 : Int32) then (0 : Int32) else (1 : Int32)), iv qq, iv r0, iv r1, iv r2, iv w0, iv w1, iv w2, rv b31, rv b32, oU, oU, oU, oU] [(.double d38), (.int (1 : Int32)), (.ref b31)])) _
      refine X37.ldc2DoubleC hx hown (mvT hZ (hw _ (List.mem_of_getElem? (i := 7) rfl))) (g := (mkF m 149 #[iv p0, oJ q1, oS, oJ q2, oS, iv p3, iv (2 : Int32), iv (if (p0 &&& (4 : Int32)) = (0 : Int32) then (0 : Int32) else (1 : Int32)), iv qq, iv r0, iv r1, iv r2, iv w0, iv w1, iv w2, rv b31, rv b32, oU, oU, oU, oU] [(.double d38), (.int (1 : Int32)), (.ref b31)])) rfl (hb hby at_149) _ ?_
      show Steps p.tables e below (T37.setTop (mkF m 152 #[iv p0, oJ q1, oS, oJ q2, oS, iv p3, iv (2 : Int32), iv (if (p0 &&& (4 : Int32)) = (0 : Int32) then (0 : Int32) else (1 : Int32)), iv qq, iv r0, iv r1, iv r2, iv w0, iv w1, iv w2, rv b31, rv b32, oU, oU, oU, oU] [(.double (4652218415073722368 : UInt64)), (.double d38), (.int (1 : Int32)), (.ref b31)])) _
      exact k
    have Y39 : own_Dy r1.toInt 1024 (FP.ddiv d38 (4652218415073722368 : UInt64)) := (own_ddiv Y38 (by decide))
    refine own_by (fun t k => XS.ddivS X37.here hx rfl (hb hby at_152) rfl (own_nnY Y39) rfl k) ?_
    generalize (FP.ddiv d38 (4652218415073722368 : UInt64)) = d39 at Y39 ⊢
    show own_Go p e below _ (T37.setTop (mkF m 153 #[iv p0, oJ q1, oS, oJ q2, oS, iv p3, iv (2 : Int32), iv (if (p0 &&& (4 : Int32)) = (0 : Int32) then (0 : Int32) else (1 : Int32)), iv qq, iv r0, iv r1, iv r2, iv w0, iv w1, iv w2, rv b31, rv b32, oU, oU, oU, oU] [(.double d39), (.int (1 : Int32)), (.ref b31)]))
    replace V_b31 : Arv Z h37 b31 k31 .double (2 : Int32) [(.double d34), (.double (0 : UInt64))] (.double (0 : UInt64)) := V_b31.pad (pad_rep [(.double d34)] (.double (0 : UInt64)) 1)
    obtain ⟨cl40, Ar40, q40, S40, N40, H40, G40⟩ := V_b31
    have hin40 : ¬ ((1 : Int32) < 0 ∨ cl40.slots.size ≤ ((1 : Int32)).toNatClampNeg) := inb_of S40 ⟨by decide, by decide⟩
    refine own_c2 (stD X37 hx hZ e37 Ar40 (j := (1 : Int32)) hin40 rfl rfl (hb hby at_153)) fun T40 h40 X40 e40 W40 => ?_
    replace V_b31 : Arv Z h40 b31 k31 .double (2 : Int32) [(.double d34), (.double d39)] (.double (0 : UInt64)) := Arv.set Ar40 q40 S40 N40 H40 G40 rfl W40 1 rfl (Nat.le_of_ble_eq_true rfl)
    replace V_b32 := V_b32.other W40 (Ne.symm ne_b31_b32)
    replace Z0 := Nat.le_trans Z0 (Keep.of_wr W40).1
    replace N0 := Fr.snoc X40 N0 g_b31
    show own_Go p e below _ (T40.setTop (mkF m 154 #[iv p0, oJ q1, oS, oJ q2, oS, iv p3, iv (2 : Int32), iv (if (p0 &&& (4 : Int32)) = (0 : Int32) then (0 : Int32) else (1 : Int32)), iv qq, iv r0, iv r1, iv r2, iv w0, iv w1, iv w2, rv b31, rv b32, oU, oU, oU, oU] []))
    refine own_by (B := T40.setTop (mkF m 159 #[iv p0, oJ q1, oS, oJ q2, oS, iv p3, iv (2 : Int32), iv (if (p0 &&& (4 : Int32)) = (0 : Int32) then (0 : Int32) else (1 : Int32)), iv qq, iv r0, iv r1, iv r2, iv w0, iv w1, iv w2, rv b31, rv b32, oU, oU, oU, oU] [(.int w1), (.int (1 : Int32)), (.ref b32)])) (fun t k => ?_) ?_
    · show Steps p.tables e below (T40.setTop (mkF m 154 #[iv p0, oJ q1, oS, oJ q2, oS, iv p3, iv (2 : Int32), iv (if (p0 &&& (4 : Int32)) = (0 : Int32) then (0 : Int32) else (1 : Int32)), iv qq, iv r0, iv r1, iv r2, iv w0, iv w1, iv w2, rv b31, rv b32, oU, oU, oU, oU] [])) _
      refine XS.aload X40.here hx rfl (hb hby at_154) rfl rfl ?_
      show Steps p.tables e below (T40.setTop (mkF m 156 #[iv p0, oJ q1, oS, oJ q2, oS, iv p3, iv (2 : Int32), iv (if (p0 &&& (4 : Int32)) = (0 : Int32) then (0 : Int32) else (1 : Int32)), iv qq, iv r0, iv r1, iv r2, iv w0, iv w1, iv w2, rv b31, rv b32, oU, oU, oU, oU] [(.ref b32)])) _
      refine XS.iconst X40.here hx rfl (hb hby at_156) ?_
      show Steps p.tables e below (T40.setTop (mkF m 157 #[iv p0, oJ q1, oS, oJ q2, oS, iv p3, iv (2 : Int32), iv (if (p0 &&& (4 : Int32)) = (0 : Int32) then (0 : Int32) else (1 : Int32)), iv qq, iv r0, iv r1, iv r2, iv w0, iv w1, iv w2, rv b31, rv b32, oU, oU, oU, oU] [(.int (1 : Int32)), (.ref b32)])) _
      refine XS.iload X40.here hx rfl (hb hby at_157) rfl ?_
      show Steps p.tables e below (T40.setTop (mkF m 159 #[iv p0, oJ q1, oS, oJ q2, oS, iv p3, iv (2 : Int32), iv (if (p0 &&& (4 : Int32)) = (0 : Int32) then (0 : Int32) else (1 : Int32)), iv qq, iv r0, iv r1, iv r2, iv w0, iv w1, iv w2, rv b31, rv b32, oU, oU, oU, oU] [(.int w1), (.int (1 : Int32)), (.ref b32)])) _
      exact k
    have Y41 : own_Di w1.toInt 32768 (FP.i2d w1) := (own_i2d w1 32768 bw1)
    refine own_by (fun t k => XS.i2dS X40.here hx rfl (hb hby at_159) rfl rfl k) ?_
    generalize (FP.i2d w1) = d41 at Y41 ⊢
    show own_Go p e below _ (T40.setTop (mkF m 160 #[iv p0, oJ q1, oS, oJ q2, oS, iv p3, iv (2 : Int32), iv (if (p0 &&& (4 : Int32)) = (0 : Int32) then (0 : Int32) else (1 : Int32)), iv qq, iv r0, iv r1, iv r2, iv w0, iv w1, iv w2, rv b31, rv b32, oU, oU, oU, oU] [(.double d41), (.int (1 : Int32)), (.ref b32)]))
    replace V_b32 : Arv Z h40 b32 k32 .double (2 : Int32) [(.double d36), (.double (0 : UInt64))] (.double (0 : UInt64)) := V_b32.pad (pad_rep [(.double d36)] (.double (0 : UInt64)) 1)
    obtain ⟨cl42, Ar42, q42, S42, N42, H42, G42⟩ := V_b32
    have hin42 : ¬ ((1 : Int32) < 0 ∨ cl42.slots.size ≤ ((1 : Int32)).toNatClampNeg) := inb_of S42 ⟨by decide, by decide⟩
    refine own_c2 (stD X40 hx hZ e40 Ar42 (j := (1 : Int32)) hin42 rfl rfl (hb hby at_160)) fun T42 h42 X42 e42 W42 => ?_
    replace V_b32 : Arv Z h42 b32 k32 .double (2 : Int32) [(.double d36), (.double d41)] (.double (0 : UInt64)) := Arv.set Ar42 q42 S42 N42 H42 G42 rfl W42 1 rfl (Nat.le_of_ble_eq_true rfl)
    replace V_b31 := V_b31.other W42 ne_b31_b32
    replace Z0 := Nat.le_trans Z0 (Keep.of_wr W42).1
    replace N0 := Fr.snoc X42 N0 g_b32
    show own_Go p e below _ (T42.setTop (mkF m 161 #[iv p0, oJ q1, oS, oJ q2, oS, iv p3, iv (2 : Int32), iv (if (p0 &&& (4 : Int32)) = (0 : Int32) then (0 : Int32) else (1 : Int32)), iv qq, iv r0, iv r1, iv r2, iv w0, iv w1, iv w2, rv b31, rv b32, oU, oU, oU, oU] []))
    refine own_by (B := T42.setTop (mkF m 195 #[iv p0, oJ q1, oS, oJ q2, oS, iv p3, iv (2 : Int32), iv (if (p0 &&& (4 : Int32)) = (0 : Int32) then (0 : Int32) else (1 : Int32)), iv qq, iv r0, iv r1, iv r2, iv w0, iv w1, iv w2, rv b31, rv b32, oJ (0 : Int64), oS, oU, oU] [(.int qq)])) (fun t k => ?_) ?_
    · show Steps p.tables e below (T42.setTop (mkF m 161 #[iv p0, oJ q1, oS, oJ q2, oS, iv p3, iv (2 : Int32), iv (if (p0 &&& (4 : Int32)) = (0 : Int32) then (0 : Int32) else (1 : Int32)), iv qq, iv r0, iv r1, iv r2, iv w0, iv w1, iv w2, rv b31, rv b32, oU, oU, oU, oU] [])) _
      refine XS.iload X42.here hx rfl (hb hby at_161) rfl ?_
      show Steps p.tables e below (T42.setTop (mkF m 163 #[iv p0, oJ q1, oS, oJ q2, oS, iv p3, iv (2 : Int32), iv (if (p0 &&& (4 : Int32)) = (0 : Int32) then (0 : Int32) else (1 : Int32)), iv qq, iv r0, iv r1, iv r2, iv w0, iv w1, iv w2, rv b31, rv b32, oU, oU, oU, oU] [(.int (2 : Int32))])) _
      refine XS.iconst X42.here hx rfl (hb hby at_163) ?_
      show Steps p.tables e below (T42.setTop (mkF m 164 #[iv p0, oJ q1, oS, oJ q2, oS, iv p3, iv (2 : Int32), iv (if (p0 &&& (4 : Int32)) = (0 : Int32) then (0 : Int32) else (1 : Int32)), iv qq, iv r0, iv r1, iv r2, iv w0, iv w1, iv w2, rv b31, rv b32, oU, oU, oU, oU] [(.int (2 : Int32)), (.int (2 : Int32))])) _
      refine XS.icmpYes X42.here hx rfl (pc0 := 164) (pc' := 185) rfl (hb hby at_164) rfl (flt (by decide : ¬ ((2 : Int32) < (2 : Int32)))).2.2.2 (by decide) (by decide) ?_
      show Steps p.tables e below (T42.setTop (mkF m 185 #[iv p0, oJ q1, oS, oJ q2, oS, iv p3, iv (2 : Int32), iv (if (p0 &&& (4 : Int32)) = (0 : Int32) then (0 : Int32) else (1 : Int32)), iv qq, iv r0, iv r1, iv r2, iv w0, iv w1, iv w2, rv b31, rv b32, oU, oU, oU, oU] [])) _
      refine XS.lconst X42.here hx rfl (hb hby at_185) ?_
      show Steps p.tables e below (T42.setTop (mkF m 186 #[iv p0, oJ q1, oS, oJ q2, oS, iv p3, iv (2 : Int32), iv (if (p0 &&& (4 : Int32)) = (0 : Int32) then (0 : Int32) else (1 : Int32)), iv qq, iv r0, iv r1, iv r2, iv w0, iv w1, iv w2, rv b31, rv b32, oU, oU, oU, oU] [(.long (0 : Int64))])) _
      refine XS.lstore X42.here hx rfl (hb hby at_186) rfl (l' := #[iv p0, oJ q1, oS, oJ q2, oS, iv p3, iv (2 : Int32), iv (if (p0 &&& (4 : Int32)) = (0 : Int32) then (0 : Int32) else (1 : Int32)), iv qq, iv r0, iv r1, iv r2, iv w0, iv w1, iv w2, rv b31, rv b32, oJ (0 : Int64), oS, oU, oU]) rfl ?_
      show Steps p.tables e below (T42.setTop (mkF m 188 #[iv p0, oJ q1, oS, oJ q2, oS, iv p3, iv (2 : Int32), iv (if (p0 &&& (4 : Int32)) = (0 : Int32) then (0 : Int32) else (1 : Int32)), iv qq, iv r0, iv r1, iv r2, iv w0, iv w1, iv w2, rv b31, rv b32, oJ (0 : Int64), oS, oU, oU] [])) _
      refine XS.iload X42.here hx rfl (hb hby at_188) rfl ?_
      show Steps p.tables e below (T42.setTop (mkF m 190 #[iv p0, oJ q1, oS, oJ q2, oS, iv p3, iv (2 : Int32), iv (if (p0 &&& (4 : Int32)) = (0 : Int32) then (0 : Int32) else (1 : Int32)), iv qq, iv r0, iv r1, iv r2, iv w0, iv w1, iv w2, rv b31, rv b32, oJ (0 : Int64), oS, oU, oU] [(.int (2 : Int32))])) _
      refine XS.ifNo X42.here hx rfl (hb hby at_190) rfl ((if0 _ _).trans (tlt (by decide : (0 : Int32) < (2 : Int32))).2.2.2) ?_
      show Steps p.tables e below (T42.setTop (mkF m 193 #[iv p0, oJ q1, oS, oJ q2, oS, iv p3, iv (2 : Int32), iv (if (p0 &&& (4 : Int32)) = (0 : Int32) then (0 : Int32) else (1 : Int32)), iv qq, iv r0, iv r1, iv r2, iv w0, iv w1, iv w2, rv b31, rv b32, oJ (0 : Int64), oS, oU, oU] [])) _
      refine XS.iload X42.here hx rfl (hb hby at_193) rfl ?_
      show Steps p.tables e below (T42.setTop (mkF m 195 #[iv p0, oJ q1, oS, oJ q2, oS, iv p3, iv (2 : Int32), iv (if (p0 &&& (4 : Int32)) = (0 : Int32) then (0 : Int32) else (1 : Int32)), iv qq, iv r0, iv r1, iv r2, iv w0, iv w1, iv w2, rv b31, rv b32, oJ (0 : Int64), oS, oU, oU] [(.int qq)])) _
      exact k
    by_cases hc43 : qq = (0 : Int32)
    · skip
      refine own_by (fun t k => XS.ifYes X42.here hx rfl (pc0 := 195) (pc' := 210) rfl (hb hby at_195) rfl ((if0 _ _).trans (teq hc43).1) (by decide) (by decide) k) ?_
      show own_Go p e below _ (T42.setTop (mkF m 210 #[iv p0, oJ q1, oS, oJ q2, oS, iv p3, iv (2 : Int32), iv (if (p0 &&& (4 : Int32)) = (0 : Int32) then (0 : Int32) else (1 : Int32)), iv qq, iv r0, iv r1, iv r2, iv w0, iv w1, iv w2, rv b31, rv b32, oJ (0 : Int64), oS, oU, oU] []))
      refine own_by (B := T42.setTop (mkF m 264 #[iv p0, oJ q1, oS, oJ q2, oS, iv p3, iv (2 : Int32), iv (if (p0 &&& (4 : Int32)) = (0 : Int32) then (0 : Int32) else (1 : Int32)), iv qq, iv r0, iv r1, iv r2, iv w0, iv w1, iv w2, rv b31, rv b32, oJ ((w1.toInt64) * (r1.toInt64)), oS, oU, oU] [(.int qq), (.ref b32), (.ref b31)])) (fun t k => ?_) ?_
      · show Steps p.tables e below (T42.setTop (mkF m 210 #[iv p0, oJ q1, oS, oJ q2, oS, iv p3, iv (2 : Int32), iv (if (p0 &&& (4 : Int32)) = (0 : Int32) then (0 : Int32) else (1 : Int32)), iv qq, iv r0, iv r1, iv r2, iv w0, iv w1, iv w2, rv b31, rv b32, oJ (0 : Int64), oS, oU, oU] [])) _
        refine XS.iload X42.here hx rfl (hb hby at_210) rfl ?_
        show Steps p.tables e below (T42.setTop (mkF m 212 #[iv p0, oJ q1, oS, oJ q2, oS, iv p3, iv (2 : Int32), iv (if (p0 &&& (4 : Int32)) = (0 : Int32) then (0 : Int32) else (1 : Int32)), iv qq, iv r0, iv r1, iv r2, iv w0, iv w1, iv w2, rv b31, rv b32, oJ (0 : Int64), oS, oU, oU] [(.int (2 : Int32))])) _
        refine XS.iconst X42.here hx rfl (hb hby at_212) ?_
        show Steps p.tables e below (T42.setTop (mkF m 213 #[iv p0, oJ q1, oS, oJ q2, oS, iv p3, iv (2 : Int32), iv (if (p0 &&& (4 : Int32)) = (0 : Int32) then (0 : Int32) else (1 : Int32)), iv qq, iv r0, iv r1, iv r2, iv w0, iv w1, iv w2, rv b31, rv b32, oJ (0 : Int64), oS, oU, oU] [(.int (1 : Int32)), (.int (2 : Int32))])) _
        refine XS.icmpNo X42.here hx rfl (hb hby at_213) rfl (tlt (by decide : (1 : Int32) < (2 : Int32))).2.2.2 ?_
        show Steps p.tables e below (T42.setTop (mkF m 216 #[iv p0, oJ q1, oS, oJ q2, oS, iv p3, iv (2 : Int32), iv (if (p0 &&& (4 : Int32)) = (0 : Int32) then (0 : Int32) else (1 : Int32)), iv qq, iv r0, iv r1, iv r2, iv w0, iv w1, iv w2, rv b31, rv b32, oJ (0 : Int64), oS, oU, oU] [])) _
        refine XS.iload X42.here hx rfl (hb hby at_216) rfl ?_
        show Steps p.tables e below (T42.setTop (mkF m 218 #[iv p0, oJ q1, oS, oJ q2, oS, iv p3, iv (2 : Int32), iv (if (p0 &&& (4 : Int32)) = (0 : Int32) then (0 : Int32) else (1 : Int32)), iv qq, iv r0, iv r1, iv r2, iv w0, iv w1, iv w2, rv b31, rv b32, oJ (0 : Int64), oS, oU, oU] [(.int qq)])) _
        refine XS.iconst X42.here hx rfl (hb hby at_218) ?_
        show Steps p.tables e below (T42.setTop (mkF m 219 #[iv p0, oJ q1, oS, oJ q2, oS, iv p3, iv (2 : Int32), iv (if (p0 &&& (4 : Int32)) = (0 : Int32) then (0 : Int32) else (1 : Int32)), iv qq, iv r0, iv r1, iv r2, iv w0, iv w1, iv w2, rv b31, rv b32, oJ (0 : Int64), oS, oU, oU] [(.int (1 : Int32)), (.int qq)])) _
        refine XS.icmpNo X42.here hx rfl (hb hby at_219) rfl (feq (by rw [hc43]; decide)).1 ?_
        show Steps p.tables e below (T42.setTop (mkF m 222 #[iv p0, oJ q1, oS, oJ q2, oS, iv p3, iv (2 : Int32), iv (if (p0 &&& (4 : Int32)) = (0 : Int32) then (0 : Int32) else (1 : Int32)), iv qq, iv r0, iv r1, iv r2, iv w0, iv w1, iv w2, rv b31, rv b32, oJ (0 : Int64), oS, oU, oU] [])) _
        refine XS.lload X42.here hx rfl (hb hby at_222) rfl ?_
        show Steps p.tables e below (T42.setTop (mkF m 224 #[iv p0, oJ q1, oS, oJ q2, oS, iv p3, iv (2 : Int32), iv (if (p0 &&& (4 : Int32)) = (0 : Int32) then (0 : Int32) else (1 : Int32)), iv qq, iv r0, iv r1, iv r2, iv w0, iv w1, iv w2, rv b31, rv b32, oJ (0 : Int64), oS, oU, oU] [(.long (0 : Int64))])) _
        refine XS.iload X42.here hx rfl (hb hby at_224) rfl ?_
        show Steps p.tables e below (T42.setTop (mkF m 226 #[iv p0, oJ q1, oS, oJ q2, oS, iv p3, iv (2 : Int32), iv (if (p0 &&& (4 : Int32)) = (0 : Int32) then (0 : Int32) else (1 : Int32)), iv qq, iv r0, iv r1, iv r2, iv w0, iv w1, iv w2, rv b31, rv b32, oJ (0 : Int64), oS, oU, oU] [(.int w1), (.long (0 : Int64))])) _
        refine XS.i2l X42.here hx rfl (hb hby at_226) rfl ?_
        show Steps p.tables e below (T42.setTop (mkF m 227 #[iv p0, oJ q1, oS, oJ q2, oS, iv p3, iv (2 : Int32), iv (if (p0 &&& (4 : Int32)) = (0 : Int32) then (0 : Int32) else (1 : Int32)), iv qq, iv r0, iv r1, iv r2, iv w0, iv w1, iv w2, rv b31, rv b32, oJ (0 : Int64), oS, oU, oU] [(.long (w1.toInt64)), (.long (0 : Int64))])) _
        refine XS.iload X42.here hx rfl (hb hby at_227) rfl ?_
        show Steps p.tables e below (T42.setTop (mkF m 229 #[iv p0, oJ q1, oS, oJ q2, oS, iv p3, iv (2 : Int32), iv (if (p0 &&& (4 : Int32)) = (0 : Int32) then (0 : Int32) else (1 : Int32)), iv qq, iv r0, iv r1, iv r2, iv w0, iv w1, iv w2, rv b31, rv b32, oJ (0 : Int64), oS, oU, oU] [(.int r1), (.long (w1.toInt64)), (.long (0 : Int64))])) _
        refine XS.i2l X42.here hx rfl (hb hby at_229) rfl ?_
        show Steps p.tables e below (T42.setTop (mkF m 230 #[iv p0, oJ q1, oS, oJ q2, oS, iv p3, iv (2 : Int32), iv (if (p0 &&& (4 : Int32)) = (0 : Int32) then (0 : Int32) else (1 : Int32)), iv qq, iv r0, iv r1, iv r2, iv w0, iv w1, iv w2, rv b31, rv b32, oJ (0 : Int64), oS, oU, oU] [(.long (r1.toInt64)), (.long (w1.toInt64)), (.long (0 : Int64))])) _
        refine XS.lmul X42.here hx rfl (hb hby at_230) rfl ?_
        show Steps p.tables e below (T42.setTop (mkF m 231 #[iv p0, oJ q1, oS, oJ q2, oS, iv p3, iv (2 : Int32), iv (if (p0 &&& (4 : Int32)) = (0 : Int32) then (0 : Int32) else (1 : Int32)), iv qq, iv r0, iv r1, iv r2, iv w0, iv w1, iv w2, rv b31, rv b32, oJ (0 : Int64), oS, oU, oU] [(.long ((w1.toInt64) * (r1.toInt64))), (.long (0 : Int64))])) _
        refine XS.ladd X42.here hx rfl (hb hby at_231) rfl ?_
        rw [Int64.zero_add]
        show Steps p.tables e below (T42.setTop (mkF m 232 #[iv p0, oJ q1, oS, oJ q2, oS, iv p3, iv (2 : Int32), iv (if (p0 &&& (4 : Int32)) = (0 : Int32) then (0 : Int32) else (1 : Int32)), iv qq, iv r0, iv r1, iv r2, iv w0, iv w1, iv w2, rv b31, rv b32, oJ (0 : Int64), oS, oU, oU] [(.long ((w1.toInt64) * (r1.toInt64)))])) _
        refine XS.lstore X42.here hx rfl (hb hby at_232) rfl (l' := #[iv p0, oJ q1, oS, oJ q2, oS, iv p3, iv (2 : Int32), iv (if (p0 &&& (4 : Int32)) = (0 : Int32) then (0 : Int32) else (1 : Int32)), iv qq, iv r0, iv r1, iv r2, iv w0, iv w1, iv w2, rv b31, rv b32, oJ ((w1.toInt64) * (r1.toInt64)), oS, oU, oU]) rfl ?_
        show Steps p.tables e below (T42.setTop (mkF m 234 #[iv p0, oJ q1, oS, oJ q2, oS, iv p3, iv (2 : Int32), iv (if (p0 &&& (4 : Int32)) = (0 : Int32) then (0 : Int32) else (1 : Int32)), iv qq, iv r0, iv r1, iv r2, iv w0, iv w1, iv w2, rv b31, rv b32, oJ ((w1.toInt64) * (r1.toInt64)), oS, oU, oU] [])) _
        refine XS.iload X42.here hx rfl (hb hby at_234) rfl ?_
        show Steps p.tables e below (T42.setTop (mkF m 236 #[iv p0, oJ q1, oS, oJ q2, oS, iv p3, iv (2 : Int32), iv (if (p0 &&& (4 : Int32)) = (0 : Int32) then (0 : Int32) else (1 : Int32)), iv qq, iv r0, iv r1, iv r2, iv w0, iv w1, iv w2, rv b31, rv b32, oJ ((w1.toInt64) * (r1.toInt64)), oS, oU, oU] [(.int (2 : Int32))])) _
        refine XS.iconst X42.here hx rfl (hb hby at_236) ?_
        show Steps p.tables e below (T42.setTop (mkF m 237 #[iv p0, oJ q1, oS, oJ q2, oS, iv p3, iv (2 : Int32), iv (if (p0 &&& (4 : Int32)) = (0 : Int32) then (0 : Int32) else (1 : Int32)), iv qq, iv r0, iv r1, iv r2, iv w0, iv w1, iv w2, rv b31, rv b32, oJ ((w1.toInt64) * (r1.toInt64)), oS, oU, oU] [(.int (2 : Int32)), (.int (2 : Int32))])) _
        refine XS.icmpYes X42.here hx rfl (pc0 := 237) (pc' := 258) rfl (hb hby at_237) rfl (flt (by decide : ¬ ((2 : Int32) < (2 : Int32)))).2.2.2 (by decide) (by decide) ?_
        show Steps p.tables e below (T42.setTop (mkF m 258 #[iv p0, oJ q1, oS, oJ q2, oS, iv p3, iv (2 : Int32), iv (if (p0 &&& (4 : Int32)) = (0 : Int32) then (0 : Int32) else (1 : Int32)), iv qq, iv r0, iv r1, iv r2, iv w0, iv w1, iv w2, rv b31, rv b32, oJ ((w1.toInt64) * (r1.toInt64)), oS, oU, oU] [])) _
        refine XS.aload X42.here hx rfl (hb hby at_258) rfl rfl ?_
        show Steps p.tables e below (T42.setTop (mkF m 260 #[iv p0, oJ q1, oS, oJ q2, oS, iv p3, iv (2 : Int32), iv (if (p0 &&& (4 : Int32)) = (0 : Int32) then (0 : Int32) else (1 : Int32)), iv qq, iv r0, iv r1, iv r2, iv w0, iv w1, iv w2, rv b31, rv b32, oJ ((w1.toInt64) * (r1.toInt64)), oS, oU, oU] [(.ref b31)])) _
        refine XS.aload X42.here hx rfl (hb hby at_260) rfl rfl ?_
        show Steps p.tables e below (T42.setTop (mkF m 262 #[iv p0, oJ q1, oS, oJ q2, oS, iv p3, iv (2 : Int32), iv (if (p0 &&& (4 : Int32)) = (0 : Int32) then (0 : Int32) else (1 : Int32)), iv qq, iv r0, iv r1, iv r2, iv w0, iv w1, iv w2, rv b31, rv b32, oJ ((w1.toInt64) * (r1.toInt64)), oS, oU, oU] [(.ref b32), (.ref b31)])) _
        refine XS.iload X42.here hx rfl (hb hby at_262) rfl ?_
        show Steps p.tables e below (T42.setTop (mkF m 264 #[iv p0, oJ q1, oS, oJ q2, oS, iv p3, iv (2 : Int32), iv (if (p0 &&& (4 : Int32)) = (0 : Int32) then (0 : Int32) else (1 : Int32)), iv qq, iv r0, iv r1, iv r2, iv w0, iv w1, iv w2, rv b31, rv b32, oJ ((w1.toInt64) * (r1.toInt64)), oS, oU, oU] [(.int qq), (.ref b32), (.ref b31)])) _
        exact k
      refine own_cc (own_callS X42 hx hZ (y := (⟨"com/example/rivulet/rivulet/flow/Flow", "expected", "([D[DI)D"⟩ : MethodName)) hown (hw _ (List.mem_of_getElem? (i := 3) rfl)) (hw _ (List.mem_of_getElem? (i := 4) rfl)) (hw _ (List.mem_of_getElem? (i := 5) rfl)) (hw _ (List.mem_of_getElem? (i := 6) rfl)) (by decide) (rm1_20 l Z a0 hw [] b31 b32 qq k31 k32 d34 d39 d36 d41 r0.toInt r1.toInt w0.toInt w1.toInt h42 n0 Z0 V_b31 V_b32 Y34 Y36 Y39 Y41 hc43.symm (by rw [hc43]; decide)) e42 0 (by decide) (by decide) (by decide) (by decide) rfl (by rw [hml]; rfl) [(.ref b31), (.ref b32), (.int qq)] [] rfl (lenOf pd_0 rfl) rfl (by show 2 * 0 + _ ≤ _; exact Nat.le_of_eq rfl) (hb hby at_264)) fun T45 L45 v45 X45 hQ45 => ?_
      obtain ⟨x_45, rfl, N45, e45, YX'⟩ := hQ45
      replace N0 := Fr.app N0 N45
      have YX := YX'
      show own_Go p e below _ (T45.setTop (mkF m 267 #[iv p0, oJ q1, oS, oJ q2, oS, iv p3, iv (2 : Int32), iv (if (p0 &&& (4 : Int32)) = (0 : Int32) then (0 : Int32) else (1 : Int32)), iv qq, iv r0, iv r1, iv r2, iv w0, iv w1, iv w2, rv b31, rv b32, oJ ((w1.toInt64) * (r1.toInt64)), oS, oU, oU] [(.double x_45)]))
      refine own_by (B := T45.setTop (mkF m 274 #[iv p0, oJ q1, oS, oJ q2, oS, iv p3, iv (2 : Int32), iv (if (p0 &&& (4 : Int32)) = (0 : Int32) then (0 : Int32) else (1 : Int32)), iv qq, iv r0, iv r1, iv r2, iv w0, iv w1, iv w2, rv b31, rv b32, oJ ((w1.toInt64) * (r1.toInt64)), oS, oD x_45, oS] [(.double (4652218415073722368 : UInt64)), (.double x_45)])) (fun t k => ?_) ?_
      · show Steps p.tables e below (T45.setTop (mkF m 267 #[iv p0, oJ q1, oS, oJ q2, oS, iv p3, iv (2 : Int32), iv (if (p0 &&& (4 : Int32)) = (0 : Int32) then (0 : Int32) else (1 : Int32)), iv qq, iv r0, iv r1, iv r2, iv w0, iv w1, iv w2, rv b31, rv b32, oJ ((w1.toInt64) * (r1.toInt64)), oS, oU, oU] [(.double x_45)])) _
        refine XS.dstore X45.here hx rfl (hb hby at_267) rfl (l' := #[iv p0, oJ q1, oS, oJ q2, oS, iv p3, iv (2 : Int32), iv (if (p0 &&& (4 : Int32)) = (0 : Int32) then (0 : Int32) else (1 : Int32)), iv qq, iv r0, iv r1, iv r2, iv w0, iv w1, iv w2, rv b31, rv b32, oJ ((w1.toInt64) * (r1.toInt64)), oS, oD x_45, oS]) rfl ?_
        show Steps p.tables e below (T45.setTop (mkF m 269 #[iv p0, oJ q1, oS, oJ q2, oS, iv p3, iv (2 : Int32), iv (if (p0 &&& (4 : Int32)) = (0 : Int32) then (0 : Int32) else (1 : Int32)), iv qq, iv r0, iv r1, iv r2, iv w0, iv w1, iv w2, rv b31, rv b32, oJ ((w1.toInt64) * (r1.toInt64)), oS, oD x_45, oS] [])) _
        refine XS.dload X45.here hx rfl (hb hby at_269) rfl ?_
        show Steps p.tables e below (T45.setTop (mkF m 271 #[iv p0, oJ q1, oS, oJ q2, oS, iv p3, iv (2 : Int32), iv (if (p0 &&& (4 : Int32)) = (0 : Int32) then (0 : Int32) else (1 : Int32)), iv qq, iv r0, iv r1, iv r2, iv w0, iv w1, iv w2, rv b31, rv b32, oJ ((w1.toInt64) * (r1.toInt64)), oS, oD x_45, oS] [(.double x_45)])) _
        refine X45.ldc2DoubleC hx hown (mvT hZ (hw _ (List.mem_of_getElem? (i := 7) rfl))) (g := (mkF m 271 #[iv p0, oJ q1, oS, oJ q2, oS, iv p3, iv (2 : Int32), iv (if (p0 &&& (4 : Int32)) = (0 : Int32) then (0 : Int32) else (1 : Int32)), iv qq, iv r0, iv r1, iv r2, iv w0, iv w1, iv w2, rv b31, rv b32, oJ ((w1.toInt64) * (r1.toInt64)), oS, oD x_45, oS] [(.double x_45)])) rfl (hb hby at_271) _ ?_
        show Steps p.tables e below (T45.setTop (mkF m 274 #[iv p0, oJ q1, oS, oJ q2, oS, iv p3, iv (2 : Int32), iv (if (p0 &&& (4 : Int32)) = (0 : Int32) then (0 : Int32) else (1 : Int32)), iv qq, iv r0, iv r1, iv r2, iv w0, iv w1, iv w2, rv b31, rv b32, oJ ((w1.toInt64) * (r1.toInt64)), oS, oD x_45, oS] [(.double (4652218415073722368 : UInt64)), (.double x_45)])) _
        exact k
      have Y46 : own_Di (0 + (w1.toInt * r1.toInt)) 33554432 (FP.dmul x_45 (4652218415073722368 : UInt64)) := (own_dback YX (by decide))
      refine own_by (fun t k => XS.dmulS X45.here hx rfl (hb hby at_274) rfl (own_nnI Y46) rfl k) ?_
      generalize (FP.dmul x_45 (4652218415073722368 : UInt64)) = d46 at Y46 ⊢
      show own_Go p e below _ (T45.setTop (mkF m 275 #[iv p0, oJ q1, oS, oJ q2, oS, iv p3, iv (2 : Int32), iv (if (p0 &&& (4 : Int32)) = (0 : Int32) then (0 : Int32) else (1 : Int32)), iv qq, iv r0, iv r1, iv r2, iv w0, iv w1, iv w2, rv b31, rv b32, oJ ((w1.toInt64) * (r1.toInt64)), oS, oD x_45, oS] [(.double d46)]))
      refine own_by (B := T45.setTop (mkF m 277 #[iv p0, oJ q1, oS, oJ q2, oS, iv p3, iv (2 : Int32), iv (if (p0 &&& (4 : Int32)) = (0 : Int32) then (0 : Int32) else (1 : Int32)), iv qq, iv r0, iv r1, iv r2, iv w0, iv w1, iv w2, rv b31, rv b32, oJ ((w1.toInt64) * (r1.toInt64)), oS, oD x_45, oS] [(.long ((w1.toInt64) * (r1.toInt64))), (.double d46)])) (fun t k => ?_) ?_
      · show Steps p.tables e below (T45.setTop (mkF m 275 #[iv p0, oJ q1, oS, oJ q2, oS, iv p3, iv (2 : Int32), iv (if (p0 &&& (4 : Int32)) = (0 : Int32) then (0 : Int32) else (1 : Int32)), iv qq, iv r0, iv r1, iv r2, iv w0, iv w1, iv w2, rv b31, rv b32, oJ ((w1.toInt64) * (r1.toInt64)), oS, oD x_45, oS] [(.double d46)])) _
        refine XS.lload X45.here hx rfl (hb hby at_275) rfl ?_
        show Steps p.tables e below (T45.setTop (mkF m 277 #[iv p0, oJ q1, oS, oJ q2, oS, iv p3, iv (2 : Int32), iv (if (p0 &&& (4 : Int32)) = (0 : Int32) then (0 : Int32) else (1 : Int32)), iv qq, iv r0, iv r1, iv r2, iv w0, iv w1, iv w2, rv b31, rv b32, oJ ((w1.toInt64) * (r1.toInt64)), oS, oD x_45, oS] [(.long ((w1.toInt64) * (r1.toInt64))), (.double d46)])) _
        exact k
      have t48_1 := own_pr w1 r1 bw1 br1
      have Y47 : own_Di ((w1.toInt64) * (r1.toInt64)).toInt 33554432 (FP.l2d ((w1.toInt64) * (r1.toInt64))) := (own_l2d ((w1.toInt64) * (r1.toInt64)) 33554432 t48_1.2 (by decide))
      refine own_by (fun t k => XS.l2dS X45.here hx rfl (hb hby at_277) rfl rfl k) ?_
      generalize (FP.l2d ((w1.toInt64) * (r1.toInt64))) = d47 at Y47 ⊢
      show own_Go p e below _ (T45.setTop (mkF m 278 #[iv p0, oJ q1, oS, oJ q2, oS, iv p3, iv (2 : Int32), iv (if (p0 &&& (4 : Int32)) = (0 : Int32) then (0 : Int32) else (1 : Int32)), iv qq, iv r0, iv r1, iv r2, iv w0, iv w1, iv w2, rv b31, rv b32, oJ ((w1.toInt64) * (r1.toInt64)), oS, oD x_45, oS] [(.double d47), (.double d46)]))
      refine own_by (fun t k => XS.dcmpS X45.here hx rfl (hb hby at_278) rfl (v := (0 : Int32)) (own_dcmp Y46 Y47 (by simp only [Int.zero_add, t48_1.1]) .l) k) ?_
      show own_Go p e below _ (T45.setTop (mkF m 279 #[iv p0, oJ q1, oS, oJ q2, oS, iv p3, iv (2 : Int32), iv (if (p0 &&& (4 : Int32)) = (0 : Int32) then (0 : Int32) else (1 : Int32)), iv qq, iv r0, iv r1, iv r2, iv w0, iv w1, iv w2, rv b31, rv b32, oJ ((w1.toInt64) * (r1.toInt64)), oS, oD x_45, oS] [(.int (0 : Int32))]))
      refine own_by (B := T45.setTop (mkF m 287 #[iv p0, oJ q1, oS, oJ q2, oS, iv p3, iv (2 : Int32), iv (if (p0 &&& (4 : Int32)) = (0 : Int32) then (0 : Int32) else (1 : Int32)), iv qq, iv r0, iv r1, iv r2, iv w0, iv w1, iv w2, rv b31, rv b32, oJ ((w1.toInt64) * (r1.toInt64)), oS, oD x_45, oS] [(.int (1 : Int32))])) (fun t k => ?_) ?_
      · show Steps p.tables e below (T45.setTop (mkF m 279 #[iv p0, oJ q1, oS, oJ q2, oS, iv p3, iv (2 : Int32), iv (if (p0 &&& (4 : Int32)) = (0 : Int32) then (0 : Int32) else (1 : Int32)), iv qq, iv r0, iv r1, iv r2, iv w0, iv w1, iv w2, rv b31, rv b32, oJ ((w1.toInt64) * (r1.toInt64)), oS, oD x_45, oS] [(.int (0 : Int32))])) _
        refine XS.ifNo X45.here hx rfl (hb hby at_279) rfl ((if0 _ _).trans (teq (by decide : (0 : Int32) = (0 : Int32))).2) ?_
        show Steps p.tables e below (T45.setTop (mkF m 282 #[iv p0, oJ q1, oS, oJ q2, oS, iv p3, iv (2 : Int32), iv (if (p0 &&& (4 : Int32)) = (0 : Int32) then (0 : Int32) else (1 : Int32)), iv qq, iv r0, iv r1, iv r2, iv w0, iv w1, iv w2, rv b31, rv b32, oJ ((w1.toInt64) * (r1.toInt64)), oS, oD x_45, oS] [])) _
        refine XS.iconst X45.here hx rfl (hb hby at_282) ?_
        show Steps p.tables e below (T45.setTop (mkF m 283 #[iv p0, oJ q1, oS, oJ q2, oS, iv p3, iv (2 : Int32), iv (if (p0 &&& (4 : Int32)) = (0 : Int32) then (0 : Int32) else (1 : Int32)), iv qq, iv r0, iv r1, iv r2, iv w0, iv w1, iv w2, rv b31, rv b32, oJ ((w1.toInt64) * (r1.toInt64)), oS, oD x_45, oS] [(.int (1 : Int32))])) _
        refine XS.goto X45.here hx rfl (pc0 := 283) (pc' := 287) rfl (hb hby at_283) (by decide) (by decide) ?_
        show Steps p.tables e below (T45.setTop (mkF m 287 #[iv p0, oJ q1, oS, oJ q2, oS, iv p3, iv (2 : Int32), iv (if (p0 &&& (4 : Int32)) = (0 : Int32) then (0 : Int32) else (1 : Int32)), iv qq, iv r0, iv r1, iv r2, iv w0, iv w1, iv w2, rv b31, rv b32, oJ ((w1.toInt64) * (r1.toInt64)), oS, oD x_45, oS] [(.int (1 : Int32))])) _
        exact k
      exact own_retN X45 Bd.notSynchronized hx (t := .boolean) Bd.returns (by simp) (hb hby at_287) (by
          try rw [show T45.heap = h42 from e45]
          exact ⟨rfl, N0⟩) (by decide) (by decide)
    · skip
      refine own_by (fun t k => XS.ifNo X42.here hx rfl (hb hby at_195) rfl ((if0 _ _).trans (feq hc43).1) k) ?_
      show own_Go p e below _ (T42.setTop (mkF m 198 #[iv p0, oJ q1, oS, oJ q2, oS, iv p3, iv (2 : Int32), iv (if (p0 &&& (4 : Int32)) = (0 : Int32) then (0 : Int32) else (1 : Int32)), iv qq, iv r0, iv r1, iv r2, iv w0, iv w1, iv w2, rv b31, rv b32, oJ (0 : Int64), oS, oU, oU] []))
      refine own_by (B := T42.setTop (mkF m 219 #[iv p0, oJ q1, oS, oJ q2, oS, iv p3, iv (2 : Int32), iv (if (p0 &&& (4 : Int32)) = (0 : Int32) then (0 : Int32) else (1 : Int32)), iv qq, iv r0, iv r1, iv r2, iv w0, iv w1, iv w2, rv b31, rv b32, oJ ((w0.toInt64) * (r0.toInt64)), oS, oU, oU] [(.int (1 : Int32)), (.int qq)])) (fun t k => ?_) ?_
      · show Steps p.tables e below (T42.setTop (mkF m 198 #[iv p0, oJ q1, oS, oJ q2, oS, iv p3, iv (2 : Int32), iv (if (p0 &&& (4 : Int32)) = (0 : Int32) then (0 : Int32) else (1 : Int32)), iv qq, iv r0, iv r1, iv r2, iv w0, iv w1, iv w2, rv b31, rv b32, oJ (0 : Int64), oS, oU, oU] [])) _
        refine XS.lload X42.here hx rfl (hb hby at_198) rfl ?_
        show Steps p.tables e below (T42.setTop (mkF m 200 #[iv p0, oJ q1, oS, oJ q2, oS, iv p3, iv (2 : Int32), iv (if (p0 &&& (4 : Int32)) = (0 : Int32) then (0 : Int32) else (1 : Int32)), iv qq, iv r0, iv r1, iv r2, iv w0, iv w1, iv w2, rv b31, rv b32, oJ (0 : Int64), oS, oU, oU] [(.long (0 : Int64))])) _
        refine XS.iload X42.here hx rfl (hb hby at_200) rfl ?_
        show Steps p.tables e below (T42.setTop (mkF m 202 #[iv p0, oJ q1, oS, oJ q2, oS, iv p3, iv (2 : Int32), iv (if (p0 &&& (4 : Int32)) = (0 : Int32) then (0 : Int32) else (1 : Int32)), iv qq, iv r0, iv r1, iv r2, iv w0, iv w1, iv w2, rv b31, rv b32, oJ (0 : Int64), oS, oU, oU] [(.int w0), (.long (0 : Int64))])) _
        refine XS.i2l X42.here hx rfl (hb hby at_202) rfl ?_
        show Steps p.tables e below (T42.setTop (mkF m 203 #[iv p0, oJ q1, oS, oJ q2, oS, iv p3, iv (2 : Int32), iv (if (p0 &&& (4 : Int32)) = (0 : Int32) then (0 : Int32) else (1 : Int32)), iv qq, iv r0, iv r1, iv r2, iv w0, iv w1, iv w2, rv b31, rv b32, oJ (0 : Int64), oS, oU, oU] [(.long (w0.toInt64)), (.long (0 : Int64))])) _
        refine XS.iload X42.here hx rfl (hb hby at_203) rfl ?_
        show Steps p.tables e below (T42.setTop (mkF m 205 #[iv p0, oJ q1, oS, oJ q2, oS, iv p3, iv (2 : Int32), iv (if (p0 &&& (4 : Int32)) = (0 : Int32) then (0 : Int32) else (1 : Int32)), iv qq, iv r0, iv r1, iv r2, iv w0, iv w1, iv w2, rv b31, rv b32, oJ (0 : Int64), oS, oU, oU] [(.int r0), (.long (w0.toInt64)), (.long (0 : Int64))])) _
        refine XS.i2l X42.here hx rfl (hb hby at_205) rfl ?_
        show Steps p.tables e below (T42.setTop (mkF m 206 #[iv p0, oJ q1, oS, oJ q2, oS, iv p3, iv (2 : Int32), iv (if (p0 &&& (4 : Int32)) = (0 : Int32) then (0 : Int32) else (1 : Int32)), iv qq, iv r0, iv r1, iv r2, iv w0, iv w1, iv w2, rv b31, rv b32, oJ (0 : Int64), oS, oU, oU] [(.long (r0.toInt64)), (.long (w0.toInt64)), (.long (0 : Int64))])) _
        refine XS.lmul X42.here hx rfl (hb hby at_206) rfl ?_
        show Steps p.tables e below (T42.setTop (mkF m 207 #[iv p0, oJ q1, oS, oJ q2, oS, iv p3, iv (2 : Int32), iv (if (p0 &&& (4 : Int32)) = (0 : Int32) then (0 : Int32) else (1 : Int32)), iv qq, iv r0, iv r1, iv r2, iv w0, iv w1, iv w2, rv b31, rv b32, oJ (0 : Int64), oS, oU, oU] [(.long ((w0.toInt64) * (r0.toInt64))), (.long (0 : Int64))])) _
        refine XS.ladd X42.here hx rfl (hb hby at_207) rfl ?_
        rw [Int64.zero_add]
        show Steps p.tables e below (T42.setTop (mkF m 208 #[iv p0, oJ q1, oS, oJ q2, oS, iv p3, iv (2 : Int32), iv (if (p0 &&& (4 : Int32)) = (0 : Int32) then (0 : Int32) else (1 : Int32)), iv qq, iv r0, iv r1, iv r2, iv w0, iv w1, iv w2, rv b31, rv b32, oJ (0 : Int64), oS, oU, oU] [(.long ((w0.toInt64) * (r0.toInt64)))])) _
        refine XS.lstore X42.here hx rfl (hb hby at_208) rfl (l' := #[iv p0, oJ q1, oS, oJ q2, oS, iv p3, iv (2 : Int32), iv (if (p0 &&& (4 : Int32)) = (0 : Int32) then (0 : Int32) else (1 : Int32)), iv qq, iv r0, iv r1, iv r2, iv w0, iv w1, iv w2, rv b31, rv b32, oJ ((w0.toInt64) * (r0.toInt64)), oS, oU, oU]) rfl ?_
        show Steps p.tables e below (T42.setTop (mkF m 210 #[iv p0, oJ q1, oS, oJ q2, oS, iv p3, iv (2 : Int32), iv (if (p0 &&& (4 : Int32)) = (0 : Int32) then (0 : Int32) else (1 : Int32)), iv qq, iv r0, iv r1, iv r2, iv w0, iv w1, iv w2, rv b31, rv b32, oJ ((w0.toInt64) * (r0.toInt64)), oS, oU, oU] [])) _
        refine XS.iload X42.here hx rfl (hb hby at_210) rfl ?_
        show Steps p.tables e below (T42.setTop (mkF m 212 #[iv p0, oJ q1, oS, oJ q2, oS, iv p3, iv (2 : Int32), iv (if (p0 &&& (4 : Int32)) = (0 : Int32) then (0 : Int32) else (1 : Int32)), iv qq, iv r0, iv r1, iv r2, iv w0, iv w1, iv w2, rv b31, rv b32, oJ ((w0.toInt64) * (r0.toInt64)), oS, oU, oU] [(.int (2 : Int32))])) _
        refine XS.iconst X42.here hx rfl (hb hby at_212) ?_
        show Steps p.tables e below (T42.setTop (mkF m 213 #[iv p0, oJ q1, oS, oJ q2, oS, iv p3, iv (2 : Int32), iv (if (p0 &&& (4 : Int32)) = (0 : Int32) then (0 : Int32) else (1 : Int32)), iv qq, iv r0, iv r1, iv r2, iv w0, iv w1, iv w2, rv b31, rv b32, oJ ((w0.toInt64) * (r0.toInt64)), oS, oU, oU] [(.int (1 : Int32)), (.int (2 : Int32))])) _
        refine XS.icmpNo X42.here hx rfl (hb hby at_213) rfl (tlt (by decide : (1 : Int32) < (2 : Int32))).2.2.2 ?_
        show Steps p.tables e below (T42.setTop (mkF m 216 #[iv p0, oJ q1, oS, oJ q2, oS, iv p3, iv (2 : Int32), iv (if (p0 &&& (4 : Int32)) = (0 : Int32) then (0 : Int32) else (1 : Int32)), iv qq, iv r0, iv r1, iv r2, iv w0, iv w1, iv w2, rv b31, rv b32, oJ ((w0.toInt64) * (r0.toInt64)), oS, oU, oU] [])) _
        refine XS.iload X42.here hx rfl (hb hby at_216) rfl ?_
        show Steps p.tables e below (T42.setTop (mkF m 218 #[iv p0, oJ q1, oS, oJ q2, oS, iv p3, iv (2 : Int32), iv (if (p0 &&& (4 : Int32)) = (0 : Int32) then (0 : Int32) else (1 : Int32)), iv qq, iv r0, iv r1, iv r2, iv w0, iv w1, iv w2, rv b31, rv b32, oJ ((w0.toInt64) * (r0.toInt64)), oS, oU, oU] [(.int qq)])) _
        refine XS.iconst X42.here hx rfl (hb hby at_218) ?_
        show Steps p.tables e below (T42.setTop (mkF m 219 #[iv p0, oJ q1, oS, oJ q2, oS, iv p3, iv (2 : Int32), iv (if (p0 &&& (4 : Int32)) = (0 : Int32) then (0 : Int32) else (1 : Int32)), iv qq, iv r0, iv r1, iv r2, iv w0, iv w1, iv w2, rv b31, rv b32, oJ ((w0.toInt64) * (r0.toInt64)), oS, oU, oU] [(.int (1 : Int32)), (.int qq)])) _
        exact k
      by_cases hc50 : qq = (1 : Int32)
      · skip
        refine own_by (fun t k => XS.icmpYes X42.here hx rfl (pc0 := 219) (pc' := 234) rfl (hb hby at_219) rfl (teq hc50).1 (by decide) (by decide) k) ?_
        show own_Go p e below _ (T42.setTop (mkF m 234 #[iv p0, oJ q1, oS, oJ q2, oS, iv p3, iv (2 : Int32), iv (if (p0 &&& (4 : Int32)) = (0 : Int32) then (0 : Int32) else (1 : Int32)), iv qq, iv r0, iv r1, iv r2, iv w0, iv w1, iv w2, rv b31, rv b32, oJ ((w0.toInt64) * (r0.toInt64)), oS, oU, oU] []))
        refine own_by (B := T42.setTop (mkF m 264 #[iv p0, oJ q1, oS, oJ q2, oS, iv p3, iv (2 : Int32), iv (if (p0 &&& (4 : Int32)) = (0 : Int32) then (0 : Int32) else (1 : Int32)), iv qq, iv r0, iv r1, iv r2, iv w0, iv w1, iv w2, rv b31, rv b32, oJ ((w0.toInt64) * (r0.toInt64)), oS, oU, oU] [(.int qq), (.ref b32), (.ref b31)])) (fun t k => ?_) ?_
        · show Steps p.tables e below (T42.setTop (mkF m 234 #[iv p0, oJ q1, oS, oJ q2, oS, iv p3, iv (2 : Int32), iv (if (p0 &&& (4 : Int32)) = (0 : Int32) then (0 : Int32) else (1 : Int32)), iv qq, iv r0, iv r1, iv r2, iv w0, iv w1, iv w2, rv b31, rv b32, oJ ((w0.toInt64) * (r0.toInt64)), oS, oU, oU] [])) _
          refine XS.iload X42.here hx rfl (hb hby at_234) rfl ?_
          show Steps p.tables e below (T42.setTop (mkF m 236 #[iv p0, oJ q1, oS, oJ q2, oS, iv p3, iv (2 : Int32), iv (if (p0 &&& (4 : Int32)) = (0 : Int32) then (0 : Int32) else (1 : Int32)), iv qq, iv r0, iv r1, iv r2, iv w0, iv w1, iv w2, rv b31, rv b32, oJ ((w0.toInt64) * (r0.toInt64)), oS, oU, oU] [(.int (2 : Int32))])) _
          refine XS.iconst X42.here hx rfl (hb hby at_236) ?_
          show Steps p.tables e below (T42.setTop (mkF m 237 #[iv p0, oJ q1, oS, oJ q2, oS, iv p3, iv (2 : Int32), iv (if (p0 &&& (4 : Int32)) = (0 : Int32) then (0 : Int32) else (1 : Int32)), iv qq, iv r0, iv r1, iv r2, iv w0, iv w1, iv w2, rv b31, rv b32, oJ ((w0.toInt64) * (r0.toInt64)), oS, oU, oU] [(.int (2 : Int32)), (.int (2 : Int32))])) _
          refine XS.icmpYes X42.here hx rfl (pc0 := 237) (pc' := 258) rfl (hb hby at_237) rfl (flt (by decide : ¬ ((2 : Int32) < (2 : Int32)))).2.2.2 (by decide) (by decide) ?_
          show Steps p.tables e below (T42.setTop (mkF m 258 #[iv p0, oJ q1, oS, oJ q2, oS, iv p3, iv (2 : Int32), iv (if (p0 &&& (4 : Int32)) = (0 : Int32) then (0 : Int32) else (1 : Int32)), iv qq, iv r0, iv r1, iv r2, iv w0, iv w1, iv w2, rv b31, rv b32, oJ ((w0.toInt64) * (r0.toInt64)), oS, oU, oU] [])) _
          refine XS.aload X42.here hx rfl (hb hby at_258) rfl rfl ?_
          show Steps p.tables e below (T42.setTop (mkF m 260 #[iv p0, oJ q1, oS, oJ q2, oS, iv p3, iv (2 : Int32), iv (if (p0 &&& (4 : Int32)) = (0 : Int32) then (0 : Int32) else (1 : Int32)), iv qq, iv r0, iv r1, iv r2, iv w0, iv w1, iv w2, rv b31, rv b32, oJ ((w0.toInt64) * (r0.toInt64)), oS, oU, oU] [(.ref b31)])) _
          refine XS.aload X42.here hx rfl (hb hby at_260) rfl rfl ?_
          show Steps p.tables e below (T42.setTop (mkF m 262 #[iv p0, oJ q1, oS, oJ q2, oS, iv p3, iv (2 : Int32), iv (if (p0 &&& (4 : Int32)) = (0 : Int32) then (0 : Int32) else (1 : Int32)), iv qq, iv r0, iv r1, iv r2, iv w0, iv w1, iv w2, rv b31, rv b32, oJ ((w0.toInt64) * (r0.toInt64)), oS, oU, oU] [(.ref b32), (.ref b31)])) _
          refine XS.iload X42.here hx rfl (hb hby at_262) rfl ?_
          show Steps p.tables e below (T42.setTop (mkF m 264 #[iv p0, oJ q1, oS, oJ q2, oS, iv p3, iv (2 : Int32), iv (if (p0 &&& (4 : Int32)) = (0 : Int32) then (0 : Int32) else (1 : Int32)), iv qq, iv r0, iv r1, iv r2, iv w0, iv w1, iv w2, rv b31, rv b32, oJ ((w0.toInt64) * (r0.toInt64)), oS, oU, oU] [(.int qq), (.ref b32), (.ref b31)])) _
          exact k
        refine own_cc (own_callS X42 hx hZ (y := (⟨"com/example/rivulet/rivulet/flow/Flow", "expected", "([D[DI)D"⟩ : MethodName)) hown (hw _ (List.mem_of_getElem? (i := 3) rfl)) (hw _ (List.mem_of_getElem? (i := 4) rfl)) (hw _ (List.mem_of_getElem? (i := 5) rfl)) (hw _ (List.mem_of_getElem? (i := 6) rfl)) (by decide) (rm1_21 l Z a0 hw [] b31 b32 qq k31 k32 d34 d39 d36 d41 r0.toInt r1.toInt w0.toInt w1.toInt h42 n0 Z0 V_b31 V_b32 Y34 Y36 Y39 Y41 (by rw [hc50]; decide) hc50.symm) e42 0 (by decide) (by decide) (by decide) (by decide) rfl (by rw [hml]; rfl) [(.ref b31), (.ref b32), (.int qq)] [] rfl (lenOf pd_0 rfl) rfl (by show 2 * 0 + _ ≤ _; exact Nat.le_of_eq rfl) (hb hby at_264)) fun T52 L52 v52 X52 hQ52 => ?_
        obtain ⟨x_52, rfl, N52, e52, YX'⟩ := hQ52
        replace N0 := Fr.app N0 N52
        have YX := YX'
        show own_Go p e below _ (T52.setTop (mkF m 267 #[iv p0, oJ q1, oS, oJ q2, oS, iv p3, iv (2 : Int32), iv (if (p0 &&& (4 : Int32)) = (0 : Int32) then (0 : Int32) else (1 : Int32)), iv qq, iv r0, iv r1, iv r2, iv w0, iv w1, iv w2, rv b31, rv b32, oJ ((w0.toInt64) * (r0.toInt64)), oS, oU, oU] [(.double x_52)]))
        refine own_by (B := T52.setTop (mkF m 274 #[iv p0, oJ q1, oS, oJ q2, oS, iv p3, iv (2 : Int32), iv (if (p0 &&& (4 : Int32)) = (0 : Int32) then (0 : Int32) else (1 : Int32)), iv qq, iv r0, iv r1, iv r2, iv w0, iv w1, iv w2, rv b31, rv b32, oJ ((w0.toInt64) * (r0.toInt64)), oS, oD x_52, oS] [(.double (4652218415073722368 : UInt64)), (.double x_52)])) (fun t k => ?_) ?_
        · show Steps p.tables e below (T52.setTop (mkF m 267 #[iv p0, oJ q1, oS, oJ q2, oS, iv p3, iv (2 : Int32), iv (if (p0 &&& (4 : Int32)) = (0 : Int32) then (0 : Int32) else (1 : Int32)), iv qq, iv r0, iv r1, iv r2, iv w0, iv w1, iv w2, rv b31, rv b32, oJ ((w0.toInt64) * (r0.toInt64)), oS, oU, oU] [(.double x_52)])) _
          refine XS.dstore X52.here hx rfl (hb hby at_267) rfl (l' := #[iv p0, oJ q1, oS, oJ q2, oS, iv p3, iv (2 : Int32), iv (if (p0 &&& (4 : Int32)) = (0 : Int32) then (0 : Int32) else (1 : Int32)), iv qq, iv r0, iv r1, iv r2, iv w0, iv w1, iv w2, rv b31, rv b32, oJ ((w0.toInt64) * (r0.toInt64)), oS, oD x_52, oS]) rfl ?_
          show Steps p.tables e below (T52.setTop (mkF m 269 #[iv p0, oJ q1, oS, oJ q2, oS, iv p3, iv (2 : Int32), iv (if (p0 &&& (4 : Int32)) = (0 : Int32) then (0 : Int32) else (1 : Int32)), iv qq, iv r0, iv r1, iv r2, iv w0, iv w1, iv w2, rv b31, rv b32, oJ ((w0.toInt64) * (r0.toInt64)), oS, oD x_52, oS] [])) _
          refine XS.dload X52.here hx rfl (hb hby at_269) rfl ?_
          show Steps p.tables e below (T52.setTop (mkF m 271 #[iv p0, oJ q1, oS, oJ q2, oS, iv p3, iv (2 : Int32), iv (if (p0 &&& (4 : Int32)) = (0 : Int32) then (0 : Int32) else (1 : Int32)), iv qq, iv r0, iv r1, iv r2, iv w0, iv w1, iv w2, rv b31, rv b32, oJ ((w0.toInt64) * (r0.toInt64)), oS, oD x_52, oS] [(.double x_52)])) _
          refine X52.ldc2DoubleC hx hown (mvT hZ (hw _ (List.mem_of_getElem? (i := 7) rfl))) (g := (mkF m 271 #[iv p0, oJ q1, oS, oJ q2, oS, iv p3, iv (2 : Int32), iv (if (p0 &&& (4 : Int32)) = (0 : Int32) then (0 : Int32) else (1 : Int32)), iv qq, iv r0, iv r1, iv r2, iv w0, iv w1, iv w2, rv b31, rv b32, oJ ((w0.toInt64) * (r0.toInt64)), oS, oD x_52, oS] [(.double x_52)])) rfl (hb hby at_271) _ ?_
          show Steps p.tables e below (T52.setTop (mkF m 274 #[iv p0, oJ q1, oS, oJ q2, oS, iv p3, iv (2 : Int32), iv (if (p0 &&& (4 : Int32)) = (0 : Int32) then (0 : Int32) else (1 : Int32)), iv qq, iv r0, iv r1, iv r2, iv w0, iv w1, iv w2, rv b31, rv b32, oJ ((w0.toInt64) * (r0.toInt64)), oS, oD x_52, oS] [(.double (4652218415073722368 : UInt64)), (.double x_52)])) _
          exact k
        have Y53 : own_Di (0 + (w0.toInt * r0.toInt)) 33554432 (FP.dmul x_52 (4652218415073722368 : UInt64)) := (own_dback YX (by decide))
        refine own_by (fun t k => XS.dmulS X52.here hx rfl (hb hby at_274) rfl (own_nnI Y53) rfl k) ?_
        generalize (FP.dmul x_52 (4652218415073722368 : UInt64)) = d53 at Y53 ⊢
        show own_Go p e below _ (T52.setTop (mkF m 275 #[iv p0, oJ q1, oS, oJ q2, oS, iv p3, iv (2 : Int32), iv (if (p0 &&& (4 : Int32)) = (0 : Int32) then (0 : Int32) else (1 : Int32)), iv qq, iv r0, iv r1, iv r2, iv w0, iv w1, iv w2, rv b31, rv b32, oJ ((w0.toInt64) * (r0.toInt64)), oS, oD x_52, oS] [(.double d53)]))
        refine own_by (B := T52.setTop (mkF m 277 #[iv p0, oJ q1, oS, oJ q2, oS, iv p3, iv (2 : Int32), iv (if (p0 &&& (4 : Int32)) = (0 : Int32) then (0 : Int32) else (1 : Int32)), iv qq, iv r0, iv r1, iv r2, iv w0, iv w1, iv w2, rv b31, rv b32, oJ ((w0.toInt64) * (r0.toInt64)), oS, oD x_52, oS] [(.long ((w0.toInt64) * (r0.toInt64))), (.double d53)])) (fun t k => ?_) ?_
        · show Steps p.tables e below (T52.setTop (mkF m 275 #[iv p0, oJ q1, oS, oJ q2, oS, iv p3, iv (2 : Int32), iv (if (p0 &&& (4 : Int32)) = (0 : Int32) then (0 : Int32) else (1 : Int32)), iv qq, iv r0, iv r1, iv r2, iv w0, iv w1, iv w2, rv b31, rv b32, oJ ((w0.toInt64) * (r0.toInt64)), oS, oD x_52, oS] [(.double d53)])) _
          refine XS.lload X52.here hx rfl (hb hby at_275) rfl ?_
          show Steps p.tables e below (T52.setTop (mkF m 277 #[iv p0, oJ q1, oS, oJ q2, oS, iv p3, iv (2 : Int32), iv (if (p0 &&& (4 : Int32)) = (0 : Int32) then (0 : Int32) else (1 : Int32)), iv qq, iv r0, iv r1, iv r2, iv w0, iv w1, iv w2, rv b31, rv b32, oJ ((w0.toInt64) * (r0.toInt64)), oS, oD x_52, oS] [(.long ((w0.toInt64) * (r0.toInt64))), (.double d53)])) _
          exact k
        have t55_0 := own_pr w0 r0 bw0 br0
        have Y54 : own_Di ((w0.toInt64) * (r0.toInt64)).toInt 33554432 (FP.l2d ((w0.toInt64) * (r0.toInt64))) := (own_l2d ((w0.toInt64) * (r0.toInt64)) 33554432 t55_0.2 (by decide))
        refine own_by (fun t k => XS.l2dS X52.here hx rfl (hb hby at_277) rfl rfl k) ?_
        generalize (FP.l2d ((w0.toInt64) * (r0.toInt64))) = d54 at Y54 ⊢
        show own_Go p e below _ (T52.setTop (mkF m 278 #[iv p0, oJ q1, oS, oJ q2, oS, iv p3, iv (2 : Int32), iv (if (p0 &&& (4 : Int32)) = (0 : Int32) then (0 : Int32) else (1 : Int32)), iv qq, iv r0, iv r1, iv r2, iv w0, iv w1, iv w2, rv b31, rv b32, oJ ((w0.toInt64) * (r0.toInt64)), oS, oD x_52, oS] [(.double d54), (.double d53)]))
        refine own_by (fun t k => XS.dcmpS X52.here hx rfl (hb hby at_278) rfl (v := (0 : Int32)) (own_dcmp Y53 Y54 (by simp only [Int.zero_add, t55_0.1]) .l) k) ?_
        show own_Go p e below _ (T52.setTop (mkF m 279 #[iv p0, oJ q1, oS, oJ q2, oS, iv p3, iv (2 : Int32), iv (if (p0 &&& (4 : Int32)) = (0 : Int32) then (0 : Int32) else (1 : Int32)), iv qq, iv r0, iv r1, iv r2, iv w0, iv w1, iv w2, rv b31, rv b32, oJ ((w0.toInt64) * (r0.toInt64)), oS, oD x_52, oS] [(.int (0 : Int32))]))
        refine own_by (B := T52.setTop (mkF m 287 #[iv p0, oJ q1, oS, oJ q2, oS, iv p3, iv (2 : Int32), iv (if (p0 &&& (4 : Int32)) = (0 : Int32) then (0 : Int32) else (1 : Int32)), iv qq, iv r0, iv r1, iv r2, iv w0, iv w1, iv w2, rv b31, rv b32, oJ ((w0.toInt64) * (r0.toInt64)), oS, oD x_52, oS] [(.int (1 : Int32))])) (fun t k => ?_) ?_
        · show Steps p.tables e below (T52.setTop (mkF m 279 #[iv p0, oJ q1, oS, oJ q2, oS, iv p3, iv (2 : Int32), iv (if (p0 &&& (4 : Int32)) = (0 : Int32) then (0 : Int32) else (1 : Int32)), iv qq, iv r0, iv r1, iv r2, iv w0, iv w1, iv w2, rv b31, rv b32, oJ ((w0.toInt64) * (r0.toInt64)), oS, oD x_52, oS] [(.int (0 : Int32))])) _
          refine XS.ifNo X52.here hx rfl (hb hby at_279) rfl ((if0 _ _).trans (teq (by decide : (0 : Int32) = (0 : Int32))).2) ?_
          show Steps p.tables e below (T52.setTop (mkF m 282 #[iv p0, oJ q1, oS, oJ q2, oS, iv p3, iv (2 : Int32), iv (if (p0 &&& (4 : Int32)) = (0 : Int32) then (0 : Int32) else (1 : Int32)), iv qq, iv r0, iv r1, iv r2, iv w0, iv w1, iv w2, rv b31, rv b32, oJ ((w0.toInt64) * (r0.toInt64)), oS, oD x_52, oS] [])) _
          refine XS.iconst X52.here hx rfl (hb hby at_282) ?_
          show Steps p.tables e below (T52.setTop (mkF m 283 #[iv p0, oJ q1, oS, oJ q2, oS, iv p3, iv (2 : Int32), iv (if (p0 &&& (4 : Int32)) = (0 : Int32) then (0 : Int32) else (1 : Int32)), iv qq, iv r0, iv r1, iv r2, iv w0, iv w1, iv w2, rv b31, rv b32, oJ ((w0.toInt64) * (r0.toInt64)), oS, oD x_52, oS] [(.int (1 : Int32))])) _
          refine XS.goto X52.here hx rfl (pc0 := 283) (pc' := 287) rfl (hb hby at_283) (by decide) (by decide) ?_
          show Steps p.tables e below (T52.setTop (mkF m 287 #[iv p0, oJ q1, oS, oJ q2, oS, iv p3, iv (2 : Int32), iv (if (p0 &&& (4 : Int32)) = (0 : Int32) then (0 : Int32) else (1 : Int32)), iv qq, iv r0, iv r1, iv r2, iv w0, iv w1, iv w2, rv b31, rv b32, oJ ((w0.toInt64) * (r0.toInt64)), oS, oD x_52, oS] [(.int (1 : Int32))])) _
          exact k
        exact own_retN X52 Bd.notSynchronized hx (t := .boolean) Bd.returns (by simp) (hb hby at_287) (by
            try rw [show T52.heap = h42 from e52]
            exact ⟨rfl, N0⟩) (by decide) (by decide)
      · skip
        refine own_by (fun t k => XS.icmpNo X42.here hx rfl (hb hby at_219) rfl (feq hc50).1 k) ?_
        show own_Go p e below _ (T42.setTop (mkF m 222 #[iv p0, oJ q1, oS, oJ q2, oS, iv p3, iv (2 : Int32), iv (if (p0 &&& (4 : Int32)) = (0 : Int32) then (0 : Int32) else (1 : Int32)), iv qq, iv r0, iv r1, iv r2, iv w0, iv w1, iv w2, rv b31, rv b32, oJ ((w0.toInt64) * (r0.toInt64)), oS, oU, oU] []))
        refine own_by (B := T42.setTop (mkF m 264 #[iv p0, oJ q1, oS, oJ q2, oS, iv p3, iv (2 : Int32), iv (if (p0 &&& (4 : Int32)) = (0 : Int32) then (0 : Int32) else (1 : Int32)), iv qq, iv r0, iv r1, iv r2, iv w0, iv w1, iv w2, rv b31, rv b32, oJ (((w0.toInt64) * (r0.toInt64)) + ((w1.toInt64) * (r1.toInt64))), oS, oU, oU] [(.int qq), (.ref b32), (.ref b31)])) (fun t k => ?_) ?_
        · show Steps p.tables e below (T42.setTop (mkF m 222 #[iv p0, oJ q1, oS, oJ q2, oS, iv p3, iv (2 : Int32), iv (if (p0 &&& (4 : Int32)) = (0 : Int32) then (0 : Int32) else (1 : Int32)), iv qq, iv r0, iv r1, iv r2, iv w0, iv w1, iv w2, rv b31, rv b32, oJ ((w0.toInt64) * (r0.toInt64)), oS, oU, oU] [])) _
          refine XS.lload X42.here hx rfl (hb hby at_222) rfl ?_
          show Steps p.tables e below (T42.setTop (mkF m 224 #[iv p0, oJ q1, oS, oJ q2, oS, iv p3, iv (2 : Int32), iv (if (p0 &&& (4 : Int32)) = (0 : Int32) then (0 : Int32) else (1 : Int32)), iv qq, iv r0, iv r1, iv r2, iv w0, iv w1, iv w2, rv b31, rv b32, oJ ((w0.toInt64) * (r0.toInt64)), oS, oU, oU] [(.long ((w0.toInt64) * (r0.toInt64)))])) _
          refine XS.iload X42.here hx rfl (hb hby at_224) rfl ?_
          show Steps p.tables e below (T42.setTop (mkF m 226 #[iv p0, oJ q1, oS, oJ q2, oS, iv p3, iv (2 : Int32), iv (if (p0 &&& (4 : Int32)) = (0 : Int32) then (0 : Int32) else (1 : Int32)), iv qq, iv r0, iv r1, iv r2, iv w0, iv w1, iv w2, rv b31, rv b32, oJ ((w0.toInt64) * (r0.toInt64)), oS, oU, oU] [(.int w1), (.long ((w0.toInt64) * (r0.toInt64)))])) _
          refine XS.i2l X42.here hx rfl (hb hby at_226) rfl ?_
          show Steps p.tables e below (T42.setTop (mkF m 227 #[iv p0, oJ q1, oS, oJ q2, oS, iv p3, iv (2 : Int32), iv (if (p0 &&& (4 : Int32)) = (0 : Int32) then (0 : Int32) else (1 : Int32)), iv qq, iv r0, iv r1, iv r2, iv w0, iv w1, iv w2, rv b31, rv b32, oJ ((w0.toInt64) * (r0.toInt64)), oS, oU, oU] [(.long (w1.toInt64)), (.long ((w0.toInt64) * (r0.toInt64)))])) _
          refine XS.iload X42.here hx rfl (hb hby at_227) rfl ?_
          show Steps p.tables e below (T42.setTop (mkF m 229 #[iv p0, oJ q1, oS, oJ q2, oS, iv p3, iv (2 : Int32), iv (if (p0 &&& (4 : Int32)) = (0 : Int32) then (0 : Int32) else (1 : Int32)), iv qq, iv r0, iv r1, iv r2, iv w0, iv w1, iv w2, rv b31, rv b32, oJ ((w0.toInt64) * (r0.toInt64)), oS, oU, oU] [(.int r1), (.long (w1.toInt64)), (.long ((w0.toInt64) * (r0.toInt64)))])) _
          refine XS.i2l X42.here hx rfl (hb hby at_229) rfl ?_
          show Steps p.tables e below (T42.setTop (mkF m 230 #[iv p0, oJ q1, oS, oJ q2, oS, iv p3, iv (2 : Int32), iv (if (p0 &&& (4 : Int32)) = (0 : Int32) then (0 : Int32) else (1 : Int32)), iv qq, iv r0, iv r1, iv r2, iv w0, iv w1, iv w2, rv b31, rv b32, oJ ((w0.toInt64) * (r0.toInt64)), oS, oU, oU] [(.long (r1.toInt64)), (.long (w1.toInt64)), (.long ((w0.toInt64) * (r0.toInt64)))])) _
          refine XS.lmul X42.here hx rfl (hb hby at_230) rfl ?_
          show Steps p.tables e below (T42.setTop (mkF m 231 #[iv p0, oJ q1, oS, oJ q2, oS, iv p3, iv (2 : Int32), iv (if (p0 &&& (4 : Int32)) = (0 : Int32) then (0 : Int32) else (1 : Int32)), iv qq, iv r0, iv r1, iv r2, iv w0, iv w1, iv w2, rv b31, rv b32, oJ ((w0.toInt64) * (r0.toInt64)), oS, oU, oU] [(.long ((w1.toInt64) * (r1.toInt64))), (.long ((w0.toInt64) * (r0.toInt64)))])) _
          refine XS.ladd X42.here hx rfl (hb hby at_231) rfl ?_
          show Steps p.tables e below (T42.setTop (mkF m 232 #[iv p0, oJ q1, oS, oJ q2, oS, iv p3, iv (2 : Int32), iv (if (p0 &&& (4 : Int32)) = (0 : Int32) then (0 : Int32) else (1 : Int32)), iv qq, iv r0, iv r1, iv r2, iv w0, iv w1, iv w2, rv b31, rv b32, oJ ((w0.toInt64) * (r0.toInt64)), oS, oU, oU] [(.long (((w0.toInt64) * (r0.toInt64)) + ((w1.toInt64) * (r1.toInt64))))])) _
          refine XS.lstore X42.here hx rfl (hb hby at_232) rfl (l' := #[iv p0, oJ q1, oS, oJ q2, oS, iv p3, iv (2 : Int32), iv (if (p0 &&& (4 : Int32)) = (0 : Int32) then (0 : Int32) else (1 : Int32)), iv qq, iv r0, iv r1, iv r2, iv w0, iv w1, iv w2, rv b31, rv b32, oJ (((w0.toInt64) * (r0.toInt64)) + ((w1.toInt64) * (r1.toInt64))), oS, oU, oU]) rfl ?_
          show Steps p.tables e below (T42.setTop (mkF m 234 #[iv p0, oJ q1, oS, oJ q2, oS, iv p3, iv (2 : Int32), iv (if (p0 &&& (4 : Int32)) = (0 : Int32) then (0 : Int32) else (1 : Int32)), iv qq, iv r0, iv r1, iv r2, iv w0, iv w1, iv w2, rv b31, rv b32, oJ (((w0.toInt64) * (r0.toInt64)) + ((w1.toInt64) * (r1.toInt64))), oS, oU, oU] [])) _
          refine XS.iload X42.here hx rfl (hb hby at_234) rfl ?_
          show Steps p.tables e below (T42.setTop (mkF m 236 #[iv p0, oJ q1, oS, oJ q2, oS, iv p3, iv (2 : Int32), iv (if (p0 &&& (4 : Int32)) = (0 : Int32) then (0 : Int32) else (1 : Int32)), iv qq, iv r0, iv r1, iv r2, iv w0, iv w1, iv w2, rv b31, rv b32, oJ (((w0.toInt64) * (r0.toInt64)) + ((w1.toInt64) * (r1.toInt64))), oS, oU, oU] [(.int (2 : Int32))])) _
          refine XS.iconst X42.here hx rfl (hb hby at_236) ?_
          show Steps p.tables e below (T42.setTop (mkF m 237 #[iv p0, oJ q1, oS, oJ q2, oS, iv p3, iv (2 : Int32), iv (if (p0 &&& (4 : Int32)) = (0 : Int32) then (0 : Int32) else (1 : Int32)), iv qq, iv r0, iv r1, iv r2, iv w0, iv w1, iv w2, rv b31, rv b32, oJ (((w0.toInt64) * (r0.toInt64)) + ((w1.toInt64) * (r1.toInt64))), oS, oU, oU] [(.int (2 : Int32)), (.int (2 : Int32))])) _
          refine XS.icmpYes X42.here hx rfl (pc0 := 237) (pc' := 258) rfl (hb hby at_237) rfl (flt (by decide : ¬ ((2 : Int32) < (2 : Int32)))).2.2.2 (by decide) (by decide) ?_
          show Steps p.tables e below (T42.setTop (mkF m 258 #[iv p0, oJ q1, oS, oJ q2, oS, iv p3, iv (2 : Int32), iv (if (p0 &&& (4 : Int32)) = (0 : Int32) then (0 : Int32) else (1 : Int32)), iv qq, iv r0, iv r1, iv r2, iv w0, iv w1, iv w2, rv b31, rv b32, oJ (((w0.toInt64) * (r0.toInt64)) + ((w1.toInt64) * (r1.toInt64))), oS, oU, oU] [])) _
          refine XS.aload X42.here hx rfl (hb hby at_258) rfl rfl ?_
          show Steps p.tables e below (T42.setTop (mkF m 260 #[iv p0, oJ q1, oS, oJ q2, oS, iv p3, iv (2 : Int32), iv (if (p0 &&& (4 : Int32)) = (0 : Int32) then (0 : Int32) else (1 : Int32)), iv qq, iv r0, iv r1, iv r2, iv w0, iv w1, iv w2, rv b31, rv b32, oJ (((w0.toInt64) * (r0.toInt64)) + ((w1.toInt64) * (r1.toInt64))), oS, oU, oU] [(.ref b31)])) _
          refine XS.aload X42.here hx rfl (hb hby at_260) rfl rfl ?_
          show Steps p.tables e below (T42.setTop (mkF m 262 #[iv p0, oJ q1, oS, oJ q2, oS, iv p3, iv (2 : Int32), iv (if (p0 &&& (4 : Int32)) = (0 : Int32) then (0 : Int32) else (1 : Int32)), iv qq, iv r0, iv r1, iv r2, iv w0, iv w1, iv w2, rv b31, rv b32, oJ (((w0.toInt64) * (r0.toInt64)) + ((w1.toInt64) * (r1.toInt64))), oS, oU, oU] [(.ref b32), (.ref b31)])) _
          refine XS.iload X42.here hx rfl (hb hby at_262) rfl ?_
          show Steps p.tables e below (T42.setTop (mkF m 264 #[iv p0, oJ q1, oS, oJ q2, oS, iv p3, iv (2 : Int32), iv (if (p0 &&& (4 : Int32)) = (0 : Int32) then (0 : Int32) else (1 : Int32)), iv qq, iv r0, iv r1, iv r2, iv w0, iv w1, iv w2, rv b31, rv b32, oJ (((w0.toInt64) * (r0.toInt64)) + ((w1.toInt64) * (r1.toInt64))), oS, oU, oU] [(.int qq), (.ref b32), (.ref b31)])) _
          exact k
        refine own_cc (own_callS X42 hx hZ (y := (⟨"com/example/rivulet/rivulet/flow/Flow", "expected", "([D[DI)D"⟩ : MethodName)) hown (hw _ (List.mem_of_getElem? (i := 3) rfl)) (hw _ (List.mem_of_getElem? (i := 4) rfl)) (hw _ (List.mem_of_getElem? (i := 5) rfl)) (hw _ (List.mem_of_getElem? (i := 6) rfl)) (by decide) (rm1_2n l Z a0 hw [] b31 b32 qq k31 k32 d34 d39 d36 d41 r0.toInt r1.toInt w0.toInt w1.toInt h42 n0 Z0 V_b31 V_b32 Y34 Y36 Y39 Y41 (fun q => hc43 q.symm) (fun q => hc50 q.symm)) e42 0 (by decide) (by decide) (by decide) (by decide) rfl (by rw [hml]; rfl) [(.ref b31), (.ref b32), (.int qq)] [] rfl (lenOf pd_0 rfl) rfl (by show 2 * 0 + _ ≤ _; exact Nat.le_of_eq rfl) (hb hby at_264)) fun T58 L58 v58 X58 hQ58 => ?_
        obtain ⟨x_58, rfl, N58, e58, YX'⟩ := hQ58
        replace N0 := Fr.app N0 N58
        have YX := YX'
        show own_Go p e below _ (T58.setTop (mkF m 267 #[iv p0, oJ q1, oS, oJ q2, oS, iv p3, iv (2 : Int32), iv (if (p0 &&& (4 : Int32)) = (0 : Int32) then (0 : Int32) else (1 : Int32)), iv qq, iv r0, iv r1, iv r2, iv w0, iv w1, iv w2, rv b31, rv b32, oJ (((w0.toInt64) * (r0.toInt64)) + ((w1.toInt64) * (r1.toInt64))), oS, oU, oU] [(.double x_58)]))
        refine own_by (B := T58.setTop (mkF m 274 #[iv p0, oJ q1, oS, oJ q2, oS, iv p3, iv (2 : Int32), iv (if (p0 &&& (4 : Int32)) = (0 : Int32) then (0 : Int32) else (1 : Int32)), iv qq, iv r0, iv r1, iv r2, iv w0, iv w1, iv w2, rv b31, rv b32, oJ (((w0.toInt64) * (r0.toInt64)) + ((w1.toInt64) * (r1.toInt64))), oS, oD x_58, oS] [(.double (4652218415073722368 : UInt64)), (.double x_58)])) (fun t k => ?_) ?_
        · show Steps p.tables e below (T58.setTop (mkF m 267 #[iv p0, oJ q1, oS, oJ q2, oS, iv p3, iv (2 : Int32), iv (if (p0 &&& (4 : Int32)) = (0 : Int32) then (0 : Int32) else (1 : Int32)), iv qq, iv r0, iv r1, iv r2, iv w0, iv w1, iv w2, rv b31, rv b32, oJ (((w0.toInt64) * (r0.toInt64)) + ((w1.toInt64) * (r1.toInt64))), oS, oU, oU] [(.double x_58)])) _
          refine XS.dstore X58.here hx rfl (hb hby at_267) rfl (l' := #[iv p0, oJ q1, oS, oJ q2, oS, iv p3, iv (2 : Int32), iv (if (p0 &&& (4 : Int32)) = (0 : Int32) then (0 : Int32) else (1 : Int32)), iv qq, iv r0, iv r1, iv r2, iv w0, iv w1, iv w2, rv b31, rv b32, oJ (((w0.toInt64) * (r0.toInt64)) + ((w1.toInt64) * (r1.toInt64))), oS, oD x_58, oS]) rfl ?_
          show Steps p.tables e below (T58.setTop (mkF m 269 #[iv p0, oJ q1, oS, oJ q2, oS, iv p3, iv (2 : Int32), iv (if (p0 &&& (4 : Int32)) = (0 : Int32) then (0 : Int32) else (1 : Int32)), iv qq, iv r0, iv r1, iv r2, iv w0, iv w1, iv w2, rv b31, rv b32, oJ (((w0.toInt64) * (r0.toInt64)) + ((w1.toInt64) * (r1.toInt64))), oS, oD x_58, oS] [])) _
          refine XS.dload X58.here hx rfl (hb hby at_269) rfl ?_
          show Steps p.tables e below (T58.setTop (mkF m 271 #[iv p0, oJ q1, oS, oJ q2, oS, iv p3, iv (2 : Int32), iv (if (p0 &&& (4 : Int32)) = (0 : Int32) then (0 : Int32) else (1 : Int32)), iv qq, iv r0, iv r1, iv r2, iv w0, iv w1, iv w2, rv b31, rv b32, oJ (((w0.toInt64) * (r0.toInt64)) + ((w1.toInt64) * (r1.toInt64))), oS, oD x_58, oS] [(.double x_58)])) _
          refine X58.ldc2DoubleC hx hown (mvT hZ (hw _ (List.mem_of_getElem? (i := 7) rfl))) (g := (mkF m 271 #[iv p0, oJ q1, oS, oJ q2, oS, iv p3, iv (2 : Int32), iv (if (p0 &&& (4 : Int32)) = (0 : Int32) then (0 : Int32) else (1 : Int32)), iv qq, iv r0, iv r1, iv r2, iv w0, iv w1, iv w2, rv b31, rv b32, oJ (((w0.toInt64) * (r0.toInt64)) + ((w1.toInt64) * (r1.toInt64))), oS, oD x_58, oS] [(.double x_58)])) rfl (hb hby at_271) _ ?_
          show Steps p.tables e below (T58.setTop (mkF m 274 #[iv p0, oJ q1, oS, oJ q2, oS, iv p3, iv (2 : Int32), iv (if (p0 &&& (4 : Int32)) = (0 : Int32) then (0 : Int32) else (1 : Int32)), iv qq, iv r0, iv r1, iv r2, iv w0, iv w1, iv w2, rv b31, rv b32, oJ (((w0.toInt64) * (r0.toInt64)) + ((w1.toInt64) * (r1.toInt64))), oS, oD x_58, oS] [(.double (4652218415073722368 : UInt64)), (.double x_58)])) _
          exact k
        have Y59 : own_Di ((0 + (w0.toInt * r0.toInt)) + (w1.toInt * r1.toInt)) 67108864 (FP.dmul x_58 (4652218415073722368 : UInt64)) := (own_dback YX (by decide))
        refine own_by (fun t k => XS.dmulS X58.here hx rfl (hb hby at_274) rfl (own_nnI Y59) rfl k) ?_
        generalize (FP.dmul x_58 (4652218415073722368 : UInt64)) = d59 at Y59 ⊢
        show own_Go p e below _ (T58.setTop (mkF m 275 #[iv p0, oJ q1, oS, oJ q2, oS, iv p3, iv (2 : Int32), iv (if (p0 &&& (4 : Int32)) = (0 : Int32) then (0 : Int32) else (1 : Int32)), iv qq, iv r0, iv r1, iv r2, iv w0, iv w1, iv w2, rv b31, rv b32, oJ (((w0.toInt64) * (r0.toInt64)) + ((w1.toInt64) * (r1.toInt64))), oS, oD x_58, oS] [(.double d59)]))
        refine own_by (B := T58.setTop (mkF m 277 #[iv p0, oJ q1, oS, oJ q2, oS, iv p3, iv (2 : Int32), iv (if (p0 &&& (4 : Int32)) = (0 : Int32) then (0 : Int32) else (1 : Int32)), iv qq, iv r0, iv r1, iv r2, iv w0, iv w1, iv w2, rv b31, rv b32, oJ (((w0.toInt64) * (r0.toInt64)) + ((w1.toInt64) * (r1.toInt64))), oS, oD x_58, oS] [(.long (((w0.toInt64) * (r0.toInt64)) + ((w1.toInt64) * (r1.toInt64)))), (.double d59)])) (fun t k => ?_) ?_
        · show Steps p.tables e below (T58.setTop (mkF m 275 #[iv p0, oJ q1, oS, oJ q2, oS, iv p3, iv (2 : Int32), iv (if (p0 &&& (4 : Int32)) = (0 : Int32) then (0 : Int32) else (1 : Int32)), iv qq, iv r0, iv r1, iv r2, iv w0, iv w1, iv w2, rv b31, rv b32, oJ (((w0.toInt64) * (r0.toInt64)) + ((w1.toInt64) * (r1.toInt64))), oS, oD x_58, oS] [(.double d59)])) _
          refine XS.lload X58.here hx rfl (hb hby at_275) rfl ?_
          show Steps p.tables e below (T58.setTop (mkF m 277 #[iv p0, oJ q1, oS, oJ q2, oS, iv p3, iv (2 : Int32), iv (if (p0 &&& (4 : Int32)) = (0 : Int32) then (0 : Int32) else (1 : Int32)), iv qq, iv r0, iv r1, iv r2, iv w0, iv w1, iv w2, rv b31, rv b32, oJ (((w0.toInt64) * (r0.toInt64)) + ((w1.toInt64) * (r1.toInt64))), oS, oD x_58, oS] [(.long (((w0.toInt64) * (r0.toInt64)) + ((w1.toInt64) * (r1.toInt64)))), (.double d59)])) _
          exact k
        have t61_0 := own_pr w0 r0 bw0 br0
        have t61_1 := own_pr w1 r1 bw1 br1
        have s61_1 := own_sm _ _ _ _ t61_0.2 t61_1.2 (show 33554432 + 33554432 ≤ 2 ^ 53 by decide)
        have Y60 : own_Di (((w0.toInt64) * (r0.toInt64)) + ((w1.toInt64) * (r1.toInt64))).toInt 67108864 (FP.l2d (((w0.toInt64) * (r0.toInt64)) + ((w1.toInt64) * (r1.toInt64)))) := (own_l2d (((w0.toInt64) * (r0.toInt64)) + ((w1.toInt64) * (r1.toInt64))) 67108864 s61_1.2 (by decide))
        refine own_by (fun t k => XS.l2dS X58.here hx rfl (hb hby at_277) rfl rfl k) ?_
        generalize (FP.l2d (((w0.toInt64) * (r0.toInt64)) + ((w1.toInt64) * (r1.toInt64)))) = d60 at Y60 ⊢
        show own_Go p e below _ (T58.setTop (mkF m 278 #[iv p0, oJ q1, oS, oJ q2, oS, iv p3, iv (2 : Int32), iv (if (p0 &&& (4 : Int32)) = (0 : Int32) then (0 : Int32) else (1 : Int32)), iv qq, iv r0, iv r1, iv r2, iv w0, iv w1, iv w2, rv b31, rv b32, oJ (((w0.toInt64) * (r0.toInt64)) + ((w1.toInt64) * (r1.toInt64))), oS, oD x_58, oS] [(.double d60), (.double d59)]))
        refine own_by (fun t k => XS.dcmpS X58.here hx rfl (hb hby at_278) rfl (v := (0 : Int32)) (own_dcmp Y59 Y60 (by simp only [Int.zero_add, t61_0.1, s61_1.1, t61_1.1]) .l) k) ?_
        show own_Go p e below _ (T58.setTop (mkF m 279 #[iv p0, oJ q1, oS, oJ q2, oS, iv p3, iv (2 : Int32), iv (if (p0 &&& (4 : Int32)) = (0 : Int32) then (0 : Int32) else (1 : Int32)), iv qq, iv r0, iv r1, iv r2, iv w0, iv w1, iv w2, rv b31, rv b32, oJ (((w0.toInt64) * (r0.toInt64)) + ((w1.toInt64) * (r1.toInt64))), oS, oD x_58, oS] [(.int (0 : Int32))]))
        refine own_by (B := T58.setTop (mkF m 287 #[iv p0, oJ q1, oS, oJ q2, oS, iv p3, iv (2 : Int32), iv (if (p0 &&& (4 : Int32)) = (0 : Int32) then (0 : Int32) else (1 : Int32)), iv qq, iv r0, iv r1, iv r2, iv w0, iv w1, iv w2, rv b31, rv b32, oJ (((w0.toInt64) * (r0.toInt64)) + ((w1.toInt64) * (r1.toInt64))), oS, oD x_58, oS] [(.int (1 : Int32))])) (fun t k => ?_) ?_
        · show Steps p.tables e below (T58.setTop (mkF m 279 #[iv p0, oJ q1, oS, oJ q2, oS, iv p3, iv (2 : Int32), iv (if (p0 &&& (4 : Int32)) = (0 : Int32) then (0 : Int32) else (1 : Int32)), iv qq, iv r0, iv r1, iv r2, iv w0, iv w1, iv w2, rv b31, rv b32, oJ (((w0.toInt64) * (r0.toInt64)) + ((w1.toInt64) * (r1.toInt64))), oS, oD x_58, oS] [(.int (0 : Int32))])) _
          refine XS.ifNo X58.here hx rfl (hb hby at_279) rfl ((if0 _ _).trans (teq (by decide : (0 : Int32) = (0 : Int32))).2) ?_
          show Steps p.tables e below (T58.setTop (mkF m 282 #[iv p0, oJ q1, oS, oJ q2, oS, iv p3, iv (2 : Int32), iv (if (p0 &&& (4 : Int32)) = (0 : Int32) then (0 : Int32) else (1 : Int32)), iv qq, iv r0, iv r1, iv r2, iv w0, iv w1, iv w2, rv b31, rv b32, oJ (((w0.toInt64) * (r0.toInt64)) + ((w1.toInt64) * (r1.toInt64))), oS, oD x_58, oS] [])) _
          refine XS.iconst X58.here hx rfl (hb hby at_282) ?_
          show Steps p.tables e below (T58.setTop (mkF m 283 #[iv p0, oJ q1, oS, oJ q2, oS, iv p3, iv (2 : Int32), iv (if (p0 &&& (4 : Int32)) = (0 : Int32) then (0 : Int32) else (1 : Int32)), iv qq, iv r0, iv r1, iv r2, iv w0, iv w1, iv w2, rv b31, rv b32, oJ (((w0.toInt64) * (r0.toInt64)) + ((w1.toInt64) * (r1.toInt64))), oS, oD x_58, oS] [(.int (1 : Int32))])) _
          refine XS.goto X58.here hx rfl (pc0 := 283) (pc' := 287) rfl (hb hby at_283) (by decide) (by decide) ?_
          show Steps p.tables e below (T58.setTop (mkF m 287 #[iv p0, oJ q1, oS, oJ q2, oS, iv p3, iv (2 : Int32), iv (if (p0 &&& (4 : Int32)) = (0 : Int32) then (0 : Int32) else (1 : Int32)), iv qq, iv r0, iv r1, iv r2, iv w0, iv w1, iv w2, rv b31, rv b32, oJ (((w0.toInt64) * (r0.toInt64)) + ((w1.toInt64) * (r1.toInt64))), oS, oD x_58, oS] [(.int (1 : Int32))])) _
          exact k
        exact own_retN X58 Bd.notSynchronized hx (t := .boolean) Bd.returns (by simp) (hb hby at_287) (by
            try rw [show T58.heap = h42 from e58]
            exact ⟨rfl, N0⟩) (by decide) (by decide)
  · simp only [hk]
    show own_Go p e below _ (s₁.setTop (mkF m 104 #[iv p0, oJ q1, oS, oJ q2, oS, iv p3, iv (3 : Int32), iv (if (p0 &&& (4 : Int32)) = (0 : Int32) then (0 : Int32) else (1 : Int32)), iv qq, iv r0, iv r1, iv r2, iv w0, iv w1, iv w2, oU, oU, oU, oU, oU, oU] [(.int (3 : Int32))]))
    have br0 : r0.toInt.natAbs ≤ 1024 := by rw [← hr0]; exact own_r _
    have bw0 : w0.toInt.natAbs ≤ 32768 := by rw [← hw0]; exact own_w _
    have br1 : r1.toInt.natAbs ≤ 1024 := by rw [← hr1]; exact own_r _
    have bw1 : w1.toInt.natAbs ≤ 32768 := by rw [← hw1]; exact own_w _
    have br2 : r2.toInt.natAbs ≤ 1024 := by rw [← hr2]; exact own_r _
    have bw2 : w2.toInt.natAbs ≤ 32768 := by rw [← hw2]; exact own_w _
    obtain ⟨T63, h63, k63, X63, e63, E63, A63, st63⟩ := newP X0 hx hZ (hw _ (List.mem_of_getElem? (i := 2) rfl)) e0 (g := (mkF m 104 #[iv p0, oJ q1, oS, oJ q2, oS, iv p3, iv (3 : Int32), iv (if (p0 &&& (4 : Int32)) = (0 : Int32) then (0 : Int32) else (1 : Int32)), iv qq, iv r0, iv r1, iv r2, iv w0, iv w1, iv w2, oU, oU, oU, oU, oU, oU] [(.int (3 : Int32))])) rfl (hb hby at_104) rfl (by decide) (cap := 3) (by decide) (by decide) (by decide) (by decide)
    obtain ⟨b63, g63⟩ : ∃ z, z = h0.size := ⟨_, rfl⟩
    rw [← g63] at A63 st63
    have g_b63 : n0 ≤ b63 := Nat.le_trans Z0 (Nat.le_of_eq g63.symm)
    replace Z0 := Nat.le_trans Z0 E63.1
    have V_b63 : Arv Z h63 b63 k63 .double (3 : Int32) [] (.double (0 : UInt64)) := Arv.new A63 (by decide)
    refine own_by st63 ?_
    show own_Go p e below _ (T63.setTop (mkF m 106 #[iv p0, oJ q1, oS, oJ q2, oS, iv p3, iv (3 : Int32), iv (if (p0 &&& (4 : Int32)) = (0 : Int32) then (0 : Int32) else (1 : Int32)), iv qq, iv r0, iv r1, iv r2, iv w0, iv w1, iv w2, oU, oU, oU, oU, oU, oU] [(.ref b63)]))
    refine own_by (B := T63.setTop (mkF m 110 #[iv p0, oJ q1, oS, oJ q2, oS, iv p3, iv (3 : Int32), iv (if (p0 &&& (4 : Int32)) = (0 : Int32) then (0 : Int32) else (1 : Int32)), iv qq, iv r0, iv r1, iv r2, iv w0, iv w1, iv w2, rv b63, oU, oU, oU, oU, oU] [(.int (3 : Int32))])) (fun t k => ?_) ?_
    · show Steps p.tables e below (T63.setTop (mkF m 106 #[iv p0, oJ q1, oS, oJ q2, oS, iv p3, iv (3 : Int32), iv (if (p0 &&& (4 : Int32)) = (0 : Int32) then (0 : Int32) else (1 : Int32)), iv qq, iv r0, iv r1, iv r2, iv w0, iv w1, iv w2, oU, oU, oU, oU, oU, oU] [(.ref b63)])) _
      refine XS.astore X63.here hx rfl (hb hby at_106) rfl rfl (l' := #[iv p0, oJ q1, oS, oJ q2, oS, iv p3, iv (3 : Int32), iv (if (p0 &&& (4 : Int32)) = (0 : Int32) then (0 : Int32) else (1 : Int32)), iv qq, iv r0, iv r1, iv r2, iv w0, iv w1, iv w2, rv b63, oU, oU, oU, oU, oU]) rfl ?_
      show Steps p.tables e below (T63.setTop (mkF m 108 #[iv p0, oJ q1, oS, oJ q2, oS, iv p3, iv (3 : Int32), iv (if (p0 &&& (4 : Int32)) = (0 : Int32) then (0 : Int32) else (1 : Int32)), iv qq, iv r0, iv r1, iv r2, iv w0, iv w1, iv w2, rv b63, oU, oU, oU, oU, oU] [])) _
      refine XS.iload X63.here hx rfl (hb hby at_108) rfl ?_
      show Steps p.tables e below (T63.setTop (mkF m 110 #[iv p0, oJ q1, oS, oJ q2, oS, iv p3, iv (3 : Int32), iv (if (p0 &&& (4 : Int32)) = (0 : Int32) then (0 : Int32) else (1 : Int32)), iv qq, iv r0, iv r1, iv r2, iv w0, iv w1, iv w2, rv b63, oU, oU, oU, oU, oU] [(.int (3 : Int32))])) _
      exact k
    obtain ⟨T64, h64, k64, X64, e64, E64, A64, st64⟩ := newP X63 hx hZ (hw _ (List.mem_of_getElem? (i := 2) rfl)) e63 (g := (mkF m 110 #[iv p0, oJ q1, oS, oJ q2, oS, iv p3, iv (3 : Int32), iv (if (p0 &&& (4 : Int32)) = (0 : Int32) then (0 : Int32) else (1 : Int32)), iv qq, iv r0, iv r1, iv r2, iv w0, iv w1, iv w2, rv b63, oU, oU, oU, oU, oU] [(.int (3 : Int32))])) rfl (hb hby at_110) rfl (by decide) (cap := 3) (by decide) (by decide) (by decide) (by decide)
    obtain ⟨b64, g64⟩ : ∃ z, z = h63.size := ⟨_, rfl⟩
    rw [← g64] at A64 st64
    have g_b64 : n0 ≤ b64 := Nat.le_trans Z0 (Nat.le_of_eq g64.symm)
    have ne_b63_b64 : b63 ≠ b64 := Nat.ne_of_lt (Nat.lt_of_lt_of_le V_b63.lt (Nat.le_of_eq g64.symm))
    replace V_b63 := V_b63.ext E64
    replace Z0 := Nat.le_trans Z0 E64.1
    have V_b64 : Arv Z h64 b64 k64 .double (3 : Int32) [] (.double (0 : UInt64)) := Arv.new A64 (by decide)
    refine own_by st64 ?_
    show own_Go p e below _ (T64.setTop (mkF m 112 #[iv p0, oJ q1, oS, oJ q2, oS, iv p3, iv (3 : Int32), iv (if (p0 &&& (4 : Int32)) = (0 : Int32) then (0 : Int32) else (1 : Int32)), iv qq, iv r0, iv r1, iv r2, iv w0, iv w1, iv w2, rv b63, oU, oU, oU, oU, oU] [(.ref b64)]))
    refine own_by (B := T64.setTop (mkF m 124 #[iv p0, oJ q1, oS, oJ q2, oS, iv p3, iv (3 : Int32), iv (if (p0 &&& (4 : Int32)) = (0 : Int32) then (0 : Int32) else (1 : Int32)), iv qq, iv r0, iv r1, iv r2, iv w0, iv w1, iv w2, rv b63, rv b64, oU, oU, oU, oU] [(.int r0), (.int (0 : Int32)), (.ref b63)])) (fun t k => ?_) ?_
    · show Steps p.tables e below (T64.setTop (mkF m 112 #[iv p0, oJ q1, oS, oJ q2, oS, iv p3, iv (3 : Int32), iv (if (p0 &&& (4 : Int32)) = (0 : Int32) then (0 : Int32) else (1 : Int32)), iv qq, iv r0, iv r1, iv r2, iv w0, iv w1, iv w2, rv b63, oU, oU, oU, oU, oU] [(.ref b64)])) _
      refine XS.astore X64.here hx rfl (hb hby at_112) rfl rfl (l' := #[iv p0, oJ q1, oS, oJ q2, oS, iv p3, iv (3 : Int32), iv (if (p0 &&& (4 : Int32)) = (0 : Int32) then (0 : Int32) else (1 : Int32)), iv qq, iv r0, iv r1, iv r2, iv w0, iv w1, iv w2, rv b63, rv b64, oU, oU, oU, oU]) rfl ?_
      show Steps p.tables e below (T64.setTop (mkF m 114 #[iv p0, oJ q1, oS, oJ q2, oS, iv p3, iv (3 : Int32), iv (if (p0 &&& (4 : Int32)) = (0 : Int32) then (0 : Int32) else (1 : Int32)), iv qq, iv r0, iv r1, iv r2, iv w0, iv w1, iv w2, rv b63, rv b64, oU, oU, oU, oU] [])) _
      refine XS.iload X64.here hx rfl (hb hby at_114) rfl ?_
      show Steps p.tables e below (T64.setTop (mkF m 116 #[iv p0, oJ q1, oS, oJ q2, oS, iv p3, iv (3 : Int32), iv (if (p0 &&& (4 : Int32)) = (0 : Int32) then (0 : Int32) else (1 : Int32)), iv qq, iv r0, iv r1, iv r2, iv w0, iv w1, iv w2, rv b63, rv b64, oU, oU, oU, oU] [(.int (3 : Int32))])) _
      refine XS.ifNo X64.here hx rfl (hb hby at_116) rfl ((if0 _ _).trans (tlt (by decide : (0 : Int32) < (3 : Int32))).2.2.2) ?_
      show Steps p.tables e below (T64.setTop (mkF m 119 #[iv p0, oJ q1, oS, oJ q2, oS, iv p3, iv (3 : Int32), iv (if (p0 &&& (4 : Int32)) = (0 : Int32) then (0 : Int32) else (1 : Int32)), iv qq, iv r0, iv r1, iv r2, iv w0, iv w1, iv w2, rv b63, rv b64, oU, oU, oU, oU] [])) _
      refine XS.aload X64.here hx rfl (hb hby at_119) rfl rfl ?_
      show Steps p.tables e below (T64.setTop (mkF m 121 #[iv p0, oJ q1, oS, oJ q2, oS, iv p3, iv (3 : Int32), iv (if (p0 &&& (4 : Int32)) = (0 : Int32) then (0 : Int32) else (1 : Int32)), iv qq, iv r0, iv r1, iv r2, iv w0, iv w1, iv w2, rv b63, rv b64, oU, oU, oU, oU] [(.ref b63)])) _
      refine XS.iconst X64.here hx rfl (hb hby at_121) ?_
      show Steps p.tables e below (T64.setTop (mkF m 122 #[iv p0, oJ q1, oS, oJ q2, oS, iv p3, iv (3 : Int32), iv (if (p0 &&& (4 : Int32)) = (0 : Int32) then (0 : Int32) else (1 : Int32)), iv qq, iv r0, iv r1, iv r2, iv w0, iv w1, iv w2, rv b63, rv b64, oU, oU, oU, oU] [(.int (0 : Int32)), (.ref b63)])) _
      refine XS.iload X64.here hx rfl (hb hby at_122) rfl ?_
      show Steps p.tables e below (T64.setTop (mkF m 124 #[iv p0, oJ q1, oS, oJ q2, oS, iv p3, iv (3 : Int32), iv (if (p0 &&& (4 : Int32)) = (0 : Int32) then (0 : Int32) else (1 : Int32)), iv qq, iv r0, iv r1, iv r2, iv w0, iv w1, iv w2, rv b63, rv b64, oU, oU, oU, oU] [(.int r0), (.int (0 : Int32)), (.ref b63)])) _
      exact k
    have Y65 : own_Di r0.toInt 1024 (FP.i2d r0) := (own_i2d r0 1024 br0)
    refine own_by (fun t k => XS.i2dS X64.here hx rfl (hb hby at_124) rfl rfl k) ?_
    generalize (FP.i2d r0) = d65 at Y65 ⊢
    show own_Go p e below _ (T64.setTop (mkF m 125 #[iv p0, oJ q1, oS, oJ q2, oS, iv p3, iv (3 : Int32), iv (if (p0 &&& (4 : Int32)) = (0 : Int32) then (0 : Int32) else (1 : Int32)), iv qq, iv r0, iv r1, iv r2, iv w0, iv w1, iv w2, rv b63, rv b64, oU, oU, oU, oU] [(.double d65), (.int (0 : Int32)), (.ref b63)]))
    refine own_by (B := T64.setTop (mkF m 128 #[iv p0, oJ q1, oS, oJ q2, oS, iv p3, iv (3 : Int32), iv (if (p0 &&& (4 : Int32)) = (0 : Int32) then (0 : Int32) else (1 : Int32)), iv qq, iv r0, iv r1, iv r2, iv w0, iv w1, iv w2, rv b63, rv b64, oU, oU, oU, oU] [(.double (4652218415073722368 : UInt64)), (.double d65), (.int (0 : Int32)), (.ref b63)])) (fun t k => ?_) ?_
    · show Steps p.tables e below (T64.setTop (mkF m 125 #[iv p0, oJ q1, oS, oJ q2, oS, iv p3, iv (3 : Int32), iv (if (p0 &&& (4 : Int32)) = (0 : Int32) then (0 : Int32) else (1 : Int32)), iv qq, iv r0, iv r1, iv r2, iv w0, iv w1, iv w2, rv b63, rv b64, oU, oU, oU, oU] [(.double d65), (.int (0 : Int32)), (.ref b63)])) _
      refine X64.ldc2DoubleC hx hown (mvT hZ (hw _ (List.mem_of_getElem? (i := 7) rfl))) (g := (mkF m 125 #[iv p0, oJ q1, oS, oJ q2, oS, iv p3, iv (3 : Int32), iv (if (p0 &&& (4 : Int32)) = (0 : Int32) then (0 : Int32) else (1 : Int32)), iv qq, iv r0, iv r1, iv r2, iv w0, iv w1, iv w2, rv b63, rv b64, oU, oU, oU, oU] [(.double d65), (.int (0 : Int32)), (.ref b63)])) rfl (hb hby at_125) _ ?_
      show Steps p.tables e below (T64.setTop (mkF m 128 #[iv p0, oJ q1, oS, oJ q2, oS, iv p3, iv (3 : Int32), iv (if (p0 &&& (4 : Int32)) = (0 : Int32) then (0 : Int32) else (1 : Int32)), iv qq, iv r0, iv r1, iv r2, iv w0, iv w1, iv w2, rv b63, rv b64, oU, oU, oU, oU] [(.double (4652218415073722368 : UInt64)), (.double d65), (.int (0 : Int32)), (.ref b63)])) _
      exact k
    have Y66 : own_Dy r0.toInt 1024 (FP.ddiv d65 (4652218415073722368 : UInt64)) := (own_ddiv Y65 (by decide))
    refine own_by (fun t k => XS.ddivS X64.here hx rfl (hb hby at_128) rfl (own_nnY Y66) rfl k) ?_
    generalize (FP.ddiv d65 (4652218415073722368 : UInt64)) = d66 at Y66 ⊢
    show own_Go p e below _ (T64.setTop (mkF m 129 #[iv p0, oJ q1, oS, oJ q2, oS, iv p3, iv (3 : Int32), iv (if (p0 &&& (4 : Int32)) = (0 : Int32) then (0 : Int32) else (1 : Int32)), iv qq, iv r0, iv r1, iv r2, iv w0, iv w1, iv w2, rv b63, rv b64, oU, oU, oU, oU] [(.double d66), (.int (0 : Int32)), (.ref b63)]))
    replace V_b63 : Arv Z h64 b63 k63 .double (3 : Int32) [(.double (0 : UInt64))] (.double (0 : UInt64)) := V_b63.pad (pad_rep [] (.double (0 : UInt64)) 1)
    obtain ⟨cl67, Ar67, q67, S67, N67, H67, G67⟩ := V_b63
    have hin67 : ¬ ((0 : Int32) < 0 ∨ cl67.slots.size ≤ ((0 : Int32)).toNatClampNeg) := inb_of S67 ⟨by decide, by decide⟩
    refine own_c2 (stD X64 hx hZ e64 Ar67 (j := (0 : Int32)) hin67 rfl rfl (hb hby at_129)) fun T67 h67 X67 e67 W67 => ?_
    replace V_b63 : Arv Z h67 b63 k63 .double (3 : Int32) [(.double d66)] (.double (0 : UInt64)) := Arv.set Ar67 q67 S67 N67 H67 G67 rfl W67 0 rfl (Nat.le_of_ble_eq_true rfl)
    replace V_b64 := V_b64.other W67 (Ne.symm ne_b63_b64)
    replace Z0 := Nat.le_trans Z0 (Keep.of_wr W67).1
    replace N0 := Fr.snoc X67 N0 g_b63
    show own_Go p e below _ (T67.setTop (mkF m 130 #[iv p0, oJ q1, oS, oJ q2, oS, iv p3, iv (3 : Int32), iv (if (p0 &&& (4 : Int32)) = (0 : Int32) then (0 : Int32) else (1 : Int32)), iv qq, iv r0, iv r1, iv r2, iv w0, iv w1, iv w2, rv b63, rv b64, oU, oU, oU, oU] []))
    refine own_by (B := T67.setTop (mkF m 135 #[iv p0, oJ q1, oS, oJ q2, oS, iv p3, iv (3 : Int32), iv (if (p0 &&& (4 : Int32)) = (0 : Int32) then (0 : Int32) else (1 : Int32)), iv qq, iv r0, iv r1, iv r2, iv w0, iv w1, iv w2, rv b63, rv b64, oU, oU, oU, oU] [(.int w0), (.int (0 : Int32)), (.ref b64)])) (fun t k => ?_) ?_
    · show Steps p.tables e below (T67.setTop (mkF m 130 #[iv p0, oJ q1, oS, oJ q2, oS, iv p3, iv (3 : Int32), iv (if (p0 &&& (4 : Int32)) = (0 : Int32) then (0 : Int32) else (1 : Int32)), iv qq, iv r0, iv r1, iv r2, iv w0, iv w1, iv w2, rv b63, rv b64, oU, oU, oU, oU] [])) _
      refine XS.aload X67.here hx rfl (hb hby at_130) rfl rfl ?_
      show Steps p.tables e below (T67.setTop (mkF m 132 #[iv p0, oJ q1, oS, oJ q2, oS, iv p3, iv (3 : Int32), iv (if (p0 &&& (4 : Int32)) = (0 : Int32) then (0 : Int32) else (1 : Int32)), iv qq, iv r0, iv r1, iv r2, iv w0, iv w1, iv w2, rv b63, rv b64, oU, oU, oU, oU] [(.ref b64)])) _
      refine XS.iconst X67.here hx rfl (hb hby at_132) ?_
      show Steps p.tables e below (T67.setTop (mkF m 133 #[iv p0, oJ q1, oS, oJ q2, oS, iv p3, iv (3 : Int32), iv (if (p0 &&& (4 : Int32)) = (0 : Int32) then (0 : Int32) else (1 : Int32)), iv qq, iv r0, iv r1, iv r2, iv w0, iv w1, iv w2, rv b63, rv b64, oU, oU, oU, oU] [(.int (0 : Int32)), (.ref b64)])) _
      refine XS.iload X67.here hx rfl (hb hby at_133) rfl ?_
      show Steps p.tables e below (T67.setTop (mkF m 135 #[iv p0, oJ q1, oS, oJ q2, oS, iv p3, iv (3 : Int32), iv (if (p0 &&& (4 : Int32)) = (0 : Int32) then (0 : Int32) else (1 : Int32)), iv qq, iv r0, iv r1, iv r2, iv w0, iv w1, iv w2, rv b63, rv b64, oU, oU, oU, oU] [(.int w0), (.int (0 : Int32)), (.ref b64)])) _
      exact k
    have Y68 : own_Di w0.toInt 32768 (FP.i2d w0) := (own_i2d w0 32768 bw0)
    refine own_by (fun t k => XS.i2dS X67.here hx rfl (hb hby at_135) rfl rfl k) ?_
    generalize (FP.i2d w0) = d68 at Y68 ⊢
    show own_Go p e below _ (T67.setTop (mkF m 136 #[iv p0, oJ q1, oS, oJ q2, oS, iv p3, iv (3 : Int32), iv (if (p0 &&& (4 : Int32)) = (0 : Int32) then (0 : Int32) else (1 : Int32)), iv qq, iv r0, iv r1, iv r2, iv w0, iv w1, iv w2, rv b63, rv b64, oU, oU, oU, oU] [(.double d68), (.int (0 : Int32)), (.ref b64)]))
    replace V_b64 : Arv Z h67 b64 k64 .double (3 : Int32) [(.double (0 : UInt64))] (.double (0 : UInt64)) := V_b64.pad (pad_rep [] (.double (0 : UInt64)) 1)
    obtain ⟨cl69, Ar69, q69, S69, N69, H69, G69⟩ := V_b64
    have hin69 : ¬ ((0 : Int32) < 0 ∨ cl69.slots.size ≤ ((0 : Int32)).toNatClampNeg) := inb_of S69 ⟨by decide, by decide⟩
    refine own_c2 (stD X67 hx hZ e67 Ar69 (j := (0 : Int32)) hin69 rfl rfl (hb hby at_136)) fun T69 h69 X69 e69 W69 => ?_
    replace V_b64 : Arv Z h69 b64 k64 .double (3 : Int32) [(.double d68)] (.double (0 : UInt64)) := Arv.set Ar69 q69 S69 N69 H69 G69 rfl W69 0 rfl (Nat.le_of_ble_eq_true rfl)
    replace V_b63 := V_b63.other W69 ne_b63_b64
    replace Z0 := Nat.le_trans Z0 (Keep.of_wr W69).1
    replace N0 := Fr.snoc X69 N0 g_b64
    show own_Go p e below _ (T69.setTop (mkF m 137 #[iv p0, oJ q1, oS, oJ q2, oS, iv p3, iv (3 : Int32), iv (if (p0 &&& (4 : Int32)) = (0 : Int32) then (0 : Int32) else (1 : Int32)), iv qq, iv r0, iv r1, iv r2, iv w0, iv w1, iv w2, rv b63, rv b64, oU, oU, oU, oU] []))
    refine own_by (B := T69.setTop (mkF m 148 #[iv p0, oJ q1, oS, oJ q2, oS, iv p3, iv (3 : Int32), iv (if (p0 &&& (4 : Int32)) = (0 : Int32) then (0 : Int32) else (1 : Int32)), iv qq, iv r0, iv r1, iv r2, iv w0, iv w1, iv w2, rv b63, rv b64, oU, oU, oU, oU] [(.int r1), (.int (1 : Int32)), (.ref b63)])) (fun t k => ?_) ?_
    · show Steps p.tables e below (T69.setTop (mkF m 137 #[iv p0, oJ q1, oS, oJ q2, oS, iv p3, iv (3 : Int32), iv (if (p0 &&& (4 : Int32)) = (0 : Int32) then (0 : Int32) else (1 : Int32)), iv qq, iv r0, iv r1, iv r2, iv w0, iv w1, iv w2, rv b63, rv b64, oU, oU, oU, oU] [])) _
      refine XS.iload X69.here hx rfl (hb hby at_137) rfl ?_
      show Steps p.tables e below (T69.setTop (mkF m 139 #[iv p0, oJ q1, oS, oJ q2, oS, iv p3, iv (3 : Int32), iv (if (p0 &&& (4 : Int32)) = (0 : Int32) then (0 : Int32) else (1 : Int32)), iv qq, iv r0, iv r1, iv r2, iv w0, iv w1, iv w2, rv b63, rv b64, oU, oU, oU, oU] [(.int (3 : Int32))])) _
      refine XS.iconst X69.here hx rfl (hb hby at_139) ?_
      show Steps p.tables e below (T69.setTop (mkF m 140 #[iv p0, oJ q1, oS, oJ q2, oS, iv p3, iv (3 : Int32), iv (if (p0 &&& (4 : Int32)) = (0 : Int32) then (0 : Int32) else (1 : Int32)), iv qq, iv r0, iv r1, iv r2, iv w0, iv w1, iv w2, rv b63, rv b64, oU, oU, oU, oU] [(.int (1 : Int32)), (.int (3 : Int32))])) _
      refine XS.icmpNo X69.here hx rfl (hb hby at_140) rfl (tlt (by decide : (1 : Int32) < (3 : Int32))).2.2.2 ?_
      show Steps p.tables e below (T69.setTop (mkF m 143 #[iv p0, oJ q1, oS, oJ q2, oS, iv p3, iv (3 : Int32), iv (if (p0 &&& (4 : Int32)) = (0 : Int32) then (0 : Int32) else (1 : Int32)), iv qq, iv r0, iv r1, iv r2, iv w0, iv w1, iv w2, rv b63, rv b64, oU, oU, oU, oU] [])) _
      refine XS.aload X69.here hx rfl (hb hby at_143) rfl rfl ?_
      show Steps p.tables e below (T69.setTop (mkF m 145 #[iv p0, oJ q1, oS, oJ q2, oS, iv p3, iv (3 : Int32), iv (if (p0 &&& (4 : Int32)) = (0 : Int32) then (0 : Int32) else (1 : Int32)), iv qq, iv r0, iv r1, iv r2, iv w0, iv w1, iv w2, rv b63, rv b64, oU, oU, oU, oU] [(.ref b63)])) _
      refine XS.iconst X69.here hx rfl (hb hby at_145) ?_
      show Steps p.tables e below (T69.setTop (mkF m 146 #[iv p0, oJ q1, oS, oJ q2, oS, iv p3, iv (3 : Int32), iv (if (p0 &&& (4 : Int32)) = (0 : Int32) then (0 : Int32) else (1 : Int32)), iv qq, iv r0, iv r1, iv r2, iv w0, iv w1, iv w2, rv b63, rv b64, oU, oU, oU, oU] [(.int (1 : Int32)), (.ref b63)])) _
      refine XS.iload X69.here hx rfl (hb hby at_146) rfl ?_
      show Steps p.tables e below (T69.setTop (mkF m 148 #[iv p0, oJ q1, oS, oJ q2, oS, iv p3, iv (3 : Int32), iv (if (p0 &&& (4 : Int32)) = (0 : Int32) then (0 : Int32) else (1 : Int32)), iv qq, iv r0, iv r1, iv r2, iv w0, iv w1, iv w2, rv b63, rv b64, oU, oU, oU, oU] [(.int r1), (.int (1 : Int32)), (.ref b63)])) _
      exact k
    have Y70 : own_Di r1.toInt 1024 (FP.i2d r1) := (own_i2d r1 1024 br1)
    refine own_by (fun t k => XS.i2dS X69.here hx rfl (hb hby at_148) rfl rfl k) ?_
    generalize (FP.i2d r1) = d70 at Y70 ⊢
    show own_Go p e below _ (T69.setTop (mkF m 149 #[iv p0, oJ q1, oS, oJ q2, oS, iv p3, iv (3 : Int32), iv (if (p0 &&& (4 : Int32)) = (0 : Int32) then (0 : Int32) else (1 : Int32)), iv qq, iv r0, iv r1, iv r2, iv w0, iv w1, iv w2, rv b63, rv b64, oU, oU, oU, oU] [(.double d70), (.int (1 : Int32)), (.ref b63)]))
    refine own_by (B := T69.setTop (mkF m 152 #[iv p0, oJ q1, oS, oJ q2, oS, iv p3, iv (3 : Int32), iv (if (p0 &&& (4 : Int32)) = (0 : Int32) then (0 : Int32) else (1 : Int32)), iv qq, iv r0, iv r1, iv r2, iv w0, iv w1, iv w2, rv b63, rv b64, oU, oU, oU, oU] [(.double (4652218415073722368 : UInt64)), (.double d70), (.int (1 : Int32)), (.ref b63)])) (fun t k => ?_) ?_
    · show Steps p.tables e below (T69.setTop (mkF m 149 #[iv p0, oJ q1, oS, oJ q2, oS, iv p3, iv (3 : Int32), iv (if (p0 &&& (4 : Int32)) = (0 : Int32) then (0 : Int32) else (1 : Int32)), iv qq, iv r0, iv r1, iv r2, iv w0, iv w1, iv w2, rv b63, rv b64, oU, oU, oU, oU] [(.double d70), (.int (1 : Int32)), (.ref b63)])) _
      refine X69.ldc2DoubleC hx hown (mvT hZ (hw _ (List.mem_of_getElem? (i := 7) rfl))) (g := (mkF m 149 #[iv p0, oJ q1, oS, oJ q2, oS, iv p3, iv (3 : Int32), iv (if (p0 &&& (4 : Int32)) = (0 : Int32) then (0 : Int32) else (1 : Int32)), iv qq, iv r0, iv r1, iv r2, iv w0, iv w1, iv w2, rv b63, rv b64, oU, oU, oU, oU] [(.double d70), (.int (1 : Int32)), (.ref b63)])) rfl (hb hby at_149) _ ?_
      show Steps p.tables e below (T69.setTop (mkF m 152 #[iv p0, oJ q1, oS, oJ q2, oS, iv p3, iv (3 : Int32), iv (if (p0 &&& (4 : Int32)) = (0 : Int32) then (0 : Int32) else (1 : Int32)), iv qq, iv r0, iv r1, iv r2, iv w0, iv w1, iv w2, rv b63, rv b64, oU, oU, oU, oU] [(.double (4652218415073722368 : UInt64)), (.double d70), (.int (1 : Int32)), (.ref b63)])) _
      exact k
    have Y71 : own_Dy r1.toInt 1024 (FP.ddiv d70 (4652218415073722368 : UInt64)) := (own_ddiv Y70 (by decide))
    refine own_by (fun t k => XS.ddivS X69.here hx rfl (hb hby at_152) rfl (own_nnY Y71) rfl k) ?_
    generalize (FP.ddiv d70 (4652218415073722368 : UInt64)) = d71 at Y71 ⊢
    show own_Go p e below _ (T69.setTop (mkF m 153 #[iv p0, oJ q1, oS, oJ q2, oS, iv p3, iv (3 : Int32), iv (if (p0 &&& (4 : Int32)) = (0 : Int32) then (0 : Int32) else (1 : Int32)), iv qq, iv r0, iv r1, iv r2, iv w0, iv w1, iv w2, rv b63, rv b64, oU, oU, oU, oU] [(.double d71), (.int (1 : Int32)), (.ref b63)]))
    replace V_b63 : Arv Z h69 b63 k63 .double (3 : Int32) [(.double d66), (.double (0 : UInt64))] (.double (0 : UInt64)) := V_b63.pad (pad_rep [(.double d66)] (.double (0 : UInt64)) 1)
    obtain ⟨cl72, Ar72, q72, S72, N72, H72, G72⟩ := V_b63
    have hin72 : ¬ ((1 : Int32) < 0 ∨ cl72.slots.size ≤ ((1 : Int32)).toNatClampNeg) := inb_of S72 ⟨by decide, by decide⟩
    refine own_c2 (stD X69 hx hZ e69 Ar72 (j := (1 : Int32)) hin72 rfl rfl (hb hby at_153)) fun T72 h72 X72 e72 W72 => ?_
    replace V_b63 : Arv Z h72 b63 k63 .double (3 : Int32) [(.double d66), (.double d71)] (.double (0 : UInt64)) := Arv.set Ar72 q72 S72 N72 H72 G72 rfl W72 1 rfl (Nat.le_of_ble_eq_true rfl)
    replace V_b64 := V_b64.other W72 (Ne.symm ne_b63_b64)
    replace Z0 := Nat.le_trans Z0 (Keep.of_wr W72).1
    replace N0 := Fr.snoc X72 N0 g_b63
    show own_Go p e below _ (T72.setTop (mkF m 154 #[iv p0, oJ q1, oS, oJ q2, oS, iv p3, iv (3 : Int32), iv (if (p0 &&& (4 : Int32)) = (0 : Int32) then (0 : Int32) else (1 : Int32)), iv qq, iv r0, iv r1, iv r2, iv w0, iv w1, iv w2, rv b63, rv b64, oU, oU, oU, oU] []))
    refine own_by (B := T72.setTop (mkF m 159 #[iv p0, oJ q1, oS, oJ q2, oS, iv p3, iv (3 : Int32), iv (if (p0 &&& (4 : Int32)) = (0 : Int32) then (0 : Int32) else (1 : Int32)), iv qq, iv r0, iv r1, iv r2, iv w0, iv w1, iv w2, rv b63, rv b64, oU, oU, oU, oU] [(.int w1), (.int (1 : Int32)), (.ref b64)])) (fun t k => ?_) ?_
    · show Steps p.tables e below (T72.setTop (mkF m 154 #[iv p0, oJ q1, oS, oJ q2, oS, iv p3, iv (3 : Int32), iv (if (p0 &&& (4 : Int32)) = (0 : Int32) then (0 : Int32) else (1 : Int32)), iv qq, iv r0, iv r1, iv r2, iv w0, iv w1, iv w2, rv b63, rv b64, oU, oU, oU, oU] [])) _
      refine XS.aload X72.here hx rfl (hb hby at_154) rfl rfl ?_
      show Steps p.tables e below (T72.setTop (mkF m 156 #[iv p0, oJ q1, oS, oJ q2, oS, iv p3, iv (3 : Int32), iv (if (p0 &&& (4 : Int32)) = (0 : Int32) then (0 : Int32) else (1 : Int32)), iv qq, iv r0, iv r1, iv r2, iv w0, iv w1, iv w2, rv b63, rv b64, oU, oU, oU, oU] [(.ref b64)])) _
      refine XS.iconst X72.here hx rfl (hb hby at_156) ?_
      show Steps p.tables e below (T72.setTop (mkF m 157 #[iv p0, oJ q1, oS, oJ q2, oS, iv p3, iv (3 : Int32), iv (if (p0 &&& (4 : Int32)) = (0 : Int32) then (0 : Int32) else (1 : Int32)), iv qq, iv r0, iv r1, iv r2, iv w0, iv w1, iv w2, rv b63, rv b64, oU, oU, oU, oU] [(.int (1 : Int32)), (.ref b64)])) _
      refine XS.iload X72.here hx rfl (hb hby at_157) rfl ?_
      show Steps p.tables e below (T72.setTop (mkF m 159 #[iv p0, oJ q1, oS, oJ q2, oS, iv p3, iv (3 : Int32), iv (if (p0 &&& (4 : Int32)) = (0 : Int32) then (0 : Int32) else (1 : Int32)), iv qq, iv r0, iv r1, iv r2, iv w0, iv w1, iv w2, rv b63, rv b64, oU, oU, oU, oU] [(.int w1), (.int (1 : Int32)), (.ref b64)])) _
      exact k
    have Y73 : own_Di w1.toInt 32768 (FP.i2d w1) := (own_i2d w1 32768 bw1)
    refine own_by (fun t k => XS.i2dS X72.here hx rfl (hb hby at_159) rfl rfl k) ?_
    generalize (FP.i2d w1) = d73 at Y73 ⊢
    show own_Go p e below _ (T72.setTop (mkF m 160 #[iv p0, oJ q1, oS, oJ q2, oS, iv p3, iv (3 : Int32), iv (if (p0 &&& (4 : Int32)) = (0 : Int32) then (0 : Int32) else (1 : Int32)), iv qq, iv r0, iv r1, iv r2, iv w0, iv w1, iv w2, rv b63, rv b64, oU, oU, oU, oU] [(.double d73), (.int (1 : Int32)), (.ref b64)]))
    replace V_b64 : Arv Z h72 b64 k64 .double (3 : Int32) [(.double d68), (.double (0 : UInt64))] (.double (0 : UInt64)) := V_b64.pad (pad_rep [(.double d68)] (.double (0 : UInt64)) 1)
    obtain ⟨cl74, Ar74, q74, S74, N74, H74, G74⟩ := V_b64
    have hin74 : ¬ ((1 : Int32) < 0 ∨ cl74.slots.size ≤ ((1 : Int32)).toNatClampNeg) := inb_of S74 ⟨by decide, by decide⟩
    refine own_c2 (stD X72 hx hZ e72 Ar74 (j := (1 : Int32)) hin74 rfl rfl (hb hby at_160)) fun T74 h74 X74 e74 W74 => ?_
    replace V_b64 : Arv Z h74 b64 k64 .double (3 : Int32) [(.double d68), (.double d73)] (.double (0 : UInt64)) := Arv.set Ar74 q74 S74 N74 H74 G74 rfl W74 1 rfl (Nat.le_of_ble_eq_true rfl)
    replace V_b63 := V_b63.other W74 ne_b63_b64
    replace Z0 := Nat.le_trans Z0 (Keep.of_wr W74).1
    replace N0 := Fr.snoc X74 N0 g_b64
    show own_Go p e below _ (T74.setTop (mkF m 161 #[iv p0, oJ q1, oS, oJ q2, oS, iv p3, iv (3 : Int32), iv (if (p0 &&& (4 : Int32)) = (0 : Int32) then (0 : Int32) else (1 : Int32)), iv qq, iv r0, iv r1, iv r2, iv w0, iv w1, iv w2, rv b63, rv b64, oU, oU, oU, oU] []))
    refine own_by (B := T74.setTop (mkF m 172 #[iv p0, oJ q1, oS, oJ q2, oS, iv p3, iv (3 : Int32), iv (if (p0 &&& (4 : Int32)) = (0 : Int32) then (0 : Int32) else (1 : Int32)), iv qq, iv r0, iv r1, iv r2, iv w0, iv w1, iv w2, rv b63, rv b64, oU, oU, oU, oU] [(.int r2), (.int (2 : Int32)), (.ref b63)])) (fun t k => ?_) ?_
    · show Steps p.tables e below (T74.setTop (mkF m 161 #[iv p0, oJ q1, oS, oJ q2, oS, iv p3, iv (3 : Int32), iv (if (p0 &&& (4 : Int32)) = (0 : Int32) then (0 : Int32) else (1 : Int32)), iv qq, iv r0, iv r1, iv r2, iv w0, iv w1, iv w2, rv b63, rv b64, oU, oU, oU, oU] [])) _
      refine XS.iload X74.here hx rfl (hb hby at_161) rfl ?_
      show Steps p.tables e below (T74.setTop (mkF m 163 #[iv p0, oJ q1, oS, oJ q2, oS, iv p3, iv (3 : Int32), iv (if (p0 &&& (4 : Int32)) = (0 : Int32) then (0 : Int32) else (1 : Int32)), iv qq, iv r0, iv r1, iv r2, iv w0, iv w1, iv w2, rv b63, rv b64, oU, oU, oU, oU] [(.int (3 : Int32))])) _
      refine XS.iconst X74.here hx rfl (hb hby at_163) ?_
      show Steps p.tables e below (T74.setTop (mkF m 164 #[iv p0, oJ q1, oS, oJ q2, oS, iv p3, iv (3 : Int32), iv (if (p0 &&& (4 : Int32)) = (0 : Int32) then (0 : Int32) else (1 : Int32)), iv qq, iv r0, iv r1, iv r2, iv w0, iv w1, iv w2, rv b63, rv b64, oU, oU, oU, oU] [(.int (2 : Int32)), (.int (3 : Int32))])) _
      refine XS.icmpNo X74.here hx rfl (hb hby at_164) rfl (tlt (by decide : (2 : Int32) < (3 : Int32))).2.2.2 ?_
      show Steps p.tables e below (T74.setTop (mkF m 167 #[iv p0, oJ q1, oS, oJ q2, oS, iv p3, iv (3 : Int32), iv (if (p0 &&& (4 : Int32)) = (0 : Int32) then (0 : Int32) else (1 : Int32)), iv qq, iv r0, iv r1, iv r2, iv w0, iv w1, iv w2, rv b63, rv b64, oU, oU, oU, oU] [])) _
      refine XS.aload X74.here hx rfl (hb hby at_167) rfl rfl ?_
      show Steps p.tables e below (T74.setTop (mkF m 169 #[iv p0, oJ q1, oS, oJ q2, oS, iv p3, iv (3 : Int32), iv (if (p0 &&& (4 : Int32)) = (0 : Int32) then (0 : Int32) else (1 : Int32)), iv qq, iv r0, iv r1, iv r2, iv w0, iv w1, iv w2, rv b63, rv b64, oU, oU, oU, oU] [(.ref b63)])) _
      refine XS.iconst X74.here hx rfl (hb hby at_169) ?_
      show Steps p.tables e below (T74.setTop (mkF m 170 #[iv p0, oJ q1, oS, oJ q2, oS, iv p3, iv (3 : Int32), iv (if (p0 &&& (4 : Int32)) = (0 : Int32) then (0 : Int32) else (1 : Int32)), iv qq, iv r0, iv r1, iv r2, iv w0, iv w1, iv w2, rv b63, rv b64, oU, oU, oU, oU] [(.int (2 : Int32)), (.ref b63)])) _
      refine XS.iload X74.here hx rfl (hb hby at_170) rfl ?_
      show Steps p.tables e below (T74.setTop (mkF m 172 #[iv p0, oJ q1, oS, oJ q2, oS, iv p3, iv (3 : Int32), iv (if (p0 &&& (4 : Int32)) = (0 : Int32) then (0 : Int32) else (1 : Int32)), iv qq, iv r0, iv r1, iv r2, iv w0, iv w1, iv w2, rv b63, rv b64, oU, oU, oU, oU] [(.int r2), (.int (2 : Int32)), (.ref b63)])) _
      exact k
    have Y75 : own_Di r2.toInt 1024 (FP.i2d r2) := (own_i2d r2 1024 br2)
    refine own_by (fun t k => XS.i2dS X74.here hx rfl (hb hby at_172) rfl rfl k) ?_
    generalize (FP.i2d r2) = d75 at Y75 ⊢
    show own_Go p e below _ (T74.setTop (mkF m 173 #[iv p0, oJ q1, oS, oJ q2, oS, iv p3, iv (3 : Int32), iv (if (p0 &&& (4 : Int32)) = (0 : Int32) then (0 : Int32) else (1 : Int32)), iv qq, iv r0, iv r1, iv r2, iv w0, iv w1, iv w2, rv b63, rv b64, oU, oU, oU, oU] [(.double d75), (.int (2 : Int32)), (.ref b63)]))
    refine own_by (B := T74.setTop (mkF m 176 #[iv p0, oJ q1, oS, oJ q2, oS, iv p3, iv (3 : Int32), iv (if (p0 &&& (4 : Int32)) = (0 : Int32) then (0 : Int32) else (1 : Int32)), iv qq, iv r0, iv r1, iv r2, iv w0, iv w1, iv w2, rv b63, rv b64, oU, oU, oU, oU] [(.double (4652218415073722368 : UInt64)), (.double d75), (.int (2 : Int32)), (.ref b63)])) (fun t k => ?_) ?_
    · show Steps p.tables e below (T74.setTop (mkF m 173 #[iv p0, oJ q1, oS, oJ q2, oS, iv p3, iv (3 : Int32), iv (if (p0 &&& (4 : Int32)) = (0 : Int32) then (0 : Int32) else (1 : Int32)), iv qq, iv r0, iv r1, iv r2, iv w0, iv w1, iv w2, rv b63, rv b64, oU, oU, oU, oU] [(.double d75), (.int (2 : Int32)), (.ref b63)])) _
      refine X74.ldc2DoubleC hx hown (mvT hZ (hw _ (List.mem_of_getElem? (i := 7) rfl))) (g := (mkF m 173 #[iv p0, oJ q1, oS, oJ q2, oS, iv p3, iv (3 : Int32), iv (if (p0 &&& (4 : Int32)) = (0 : Int32) then (0 : Int32) else (1 : Int32)), iv qq, iv r0, iv r1, iv r2, iv w0, iv w1, iv w2, rv b63, rv b64, oU, oU, oU, oU] [(.double d75), (.int (2 : Int32)), (.ref b63)])) rfl (hb hby at_173) _ ?_
      show Steps p.tables e below (T74.setTop (mkF m 176 #[iv p0, oJ q1, oS, oJ q2, oS, iv p3, iv (3 : Int32), iv (if (p0 &&& (4 : Int32)) = (0 : Int32) then (0 : Int32) else (1 : Int32)), iv qq, iv r0, iv r1, iv r2, iv w0, iv w1, iv w2, rv b63, rv b64, oU, oU, oU, oU] [(.double (4652218415073722368 : UInt64)), (.double d75), (.int (2 : Int32)), (.ref b63)])) _
      exact k
    have Y76 : own_Dy r2.toInt 1024 (FP.ddiv d75 (4652218415073722368 : UInt64)) := (own_ddiv Y75 (by decide))
    refine own_by (fun t k => XS.ddivS X74.here hx rfl (hb hby at_176) rfl (own_nnY Y76) rfl k) ?_
    generalize (FP.ddiv d75 (4652218415073722368 : UInt64)) = d76 at Y76 ⊢
    show own_Go p e below _ (T74.setTop (mkF m 177 #[iv p0, oJ q1, oS, oJ q2, oS, iv p3, iv (3 : Int32), iv (if (p0 &&& (4 : Int32)) = (0 : Int32) then (0 : Int32) else (1 : Int32)), iv qq, iv r0, iv r1, iv r2, iv w0, iv w1, iv w2, rv b63, rv b64, oU, oU, oU, oU] [(.double d76), (.int (2 : Int32)), (.ref b63)]))
    replace V_b63 : Arv Z h74 b63 k63 .double (3 : Int32) [(.double d66), (.double d71), (.double (0 : UInt64))] (.double (0 : UInt64)) := V_b63.pad (pad_rep [(.double d66), (.double d71)] (.double (0 : UInt64)) 1)
    obtain ⟨cl77, Ar77, q77, S77, N77, H77, G77⟩ := V_b63
    have hin77 : ¬ ((2 : Int32) < 0 ∨ cl77.slots.size ≤ ((2 : Int32)).toNatClampNeg) := inb_of S77 ⟨by decide, by decide⟩
    refine own_c2 (stD X74 hx hZ e74 Ar77 (j := (2 : Int32)) hin77 rfl rfl (hb hby at_177)) fun T77 h77 X77 e77 W77 => ?_
    replace V_b63 : Arv Z h77 b63 k63 .double (3 : Int32) [(.double d66), (.double d71), (.double d76)] (.double (0 : UInt64)) := Arv.set Ar77 q77 S77 N77 H77 G77 rfl W77 2 rfl (Nat.le_of_ble_eq_true rfl)
    replace V_b64 := V_b64.other W77 (Ne.symm ne_b63_b64)
    replace Z0 := Nat.le_trans Z0 (Keep.of_wr W77).1
    replace N0 := Fr.snoc X77 N0 g_b63
    show own_Go p e below _ (T77.setTop (mkF m 178 #[iv p0, oJ q1, oS, oJ q2, oS, iv p3, iv (3 : Int32), iv (if (p0 &&& (4 : Int32)) = (0 : Int32) then (0 : Int32) else (1 : Int32)), iv qq, iv r0, iv r1, iv r2, iv w0, iv w1, iv w2, rv b63, rv b64, oU, oU, oU, oU] []))
    refine own_by (B := T77.setTop (mkF m 183 #[iv p0, oJ q1, oS, oJ q2, oS, iv p3, iv (3 : Int32), iv (if (p0 &&& (4 : Int32)) = (0 : Int32) then (0 : Int32) else (1 : Int32)), iv qq, iv r0, iv r1, iv r2, iv w0, iv w1, iv w2, rv b63, rv b64, oU, oU, oU, oU] [(.int w2), (.int (2 : Int32)), (.ref b64)])) (fun t k => ?_) ?_
    · show Steps p.tables e below (T77.setTop (mkF m 178 #[iv p0, oJ q1, oS, oJ q2, oS, iv p3, iv (3 : Int32), iv (if (p0 &&& (4 : Int32)) = (0 : Int32) then (0 : Int32) else (1 : Int32)), iv qq, iv r0, iv r1, iv r2, iv w0, iv w1, iv w2, rv b63, rv b64, oU, oU, oU, oU] [])) _
      refine XS.aload X77.here hx rfl (hb hby at_178) rfl rfl ?_
      show Steps p.tables e below (T77.setTop (mkF m 180 #[iv p0, oJ q1, oS, oJ q2, oS, iv p3, iv (3 : Int32), iv (if (p0 &&& (4 : Int32)) = (0 : Int32) then (0 : Int32) else (1 : Int32)), iv qq, iv r0, iv r1, iv r2, iv w0, iv w1, iv w2, rv b63, rv b64, oU, oU, oU, oU] [(.ref b64)])) _
      refine XS.iconst X77.here hx rfl (hb hby at_180) ?_
      show Steps p.tables e below (T77.setTop (mkF m 181 #[iv p0, oJ q1, oS, oJ q2, oS, iv p3, iv (3 : Int32), iv (if (p0 &&& (4 : Int32)) = (0 : Int32) then (0 : Int32) else (1 : Int32)), iv qq, iv r0, iv r1, iv r2, iv w0, iv w1, iv w2, rv b63, rv b64, oU, oU, oU, oU] [(.int (2 : Int32)), (.ref b64)])) _
      refine XS.iload X77.here hx rfl (hb hby at_181) rfl ?_
      show Steps p.tables e below (T77.setTop (mkF m 183 #[iv p0, oJ q1, oS, oJ q2, oS, iv p3, iv (3 : Int32), iv (if (p0 &&& (4 : Int32)) = (0 : Int32) then (0 : Int32) else (1 : Int32)), iv qq, iv r0, iv r1, iv r2, iv w0, iv w1, iv w2, rv b63, rv b64, oU, oU, oU, oU] [(.int w2), (.int (2 : Int32)), (.ref b64)])) _
      exact k
    have Y78 : own_Di w2.toInt 32768 (FP.i2d w2) := (own_i2d w2 32768 bw2)
    refine own_by (fun t k => XS.i2dS X77.here hx rfl (hb hby at_183) rfl rfl k) ?_
    generalize (FP.i2d w2) = d78 at Y78 ⊢
    show own_Go p e below _ (T77.setTop (mkF m 184 #[iv p0, oJ q1, oS, oJ q2, oS, iv p3, iv (3 : Int32), iv (if (p0 &&& (4 : Int32)) = (0 : Int32) then (0 : Int32) else (1 : Int32)), iv qq, iv r0, iv r1, iv r2, iv w0, iv w1, iv w2, rv b63, rv b64, oU, oU, oU, oU] [(.double d78), (.int (2 : Int32)), (.ref b64)]))
    replace V_b64 : Arv Z h77 b64 k64 .double (3 : Int32) [(.double d68), (.double d73), (.double (0 : UInt64))] (.double (0 : UInt64)) := V_b64.pad (pad_rep [(.double d68), (.double d73)] (.double (0 : UInt64)) 1)
    obtain ⟨cl79, Ar79, q79, S79, N79, H79, G79⟩ := V_b64
    have hin79 : ¬ ((2 : Int32) < 0 ∨ cl79.slots.size ≤ ((2 : Int32)).toNatClampNeg) := inb_of S79 ⟨by decide, by decide⟩
    refine own_c2 (stD X77 hx hZ e77 Ar79 (j := (2 : Int32)) hin79 rfl rfl (hb hby at_184)) fun T79 h79 X79 e79 W79 => ?_
    replace V_b64 : Arv Z h79 b64 k64 .double (3 : Int32) [(.double d68), (.double d73), (.double d78)] (.double (0 : UInt64)) := Arv.set Ar79 q79 S79 N79 H79 G79 rfl W79 2 rfl (Nat.le_of_ble_eq_true rfl)
    replace V_b63 := V_b63.other W79 ne_b63_b64
    replace Z0 := Nat.le_trans Z0 (Keep.of_wr W79).1
    replace N0 := Fr.snoc X79 N0 g_b64
    show own_Go p e below _ (T79.setTop (mkF m 185 #[iv p0, oJ q1, oS, oJ q2, oS, iv p3, iv (3 : Int32), iv (if (p0 &&& (4 : Int32)) = (0 : Int32) then (0 : Int32) else (1 : Int32)), iv qq, iv r0, iv r1, iv r2, iv w0, iv w1, iv w2, rv b63, rv b64, oU, oU, oU, oU] []))
    refine own_by (B := T79.setTop (mkF m 195 #[iv p0, oJ q1, oS, oJ q2, oS, iv p3, iv (3 : Int32), iv (if (p0 &&& (4 : Int32)) = (0 : Int32) then (0 : Int32) else (1 : Int32)), iv qq, iv r0, iv r1, iv r2, iv w0, iv w1, iv w2, rv b63, rv b64, oJ (0 : Int64), oS, oU, oU] [(.int qq)])) (fun t k => ?_) ?_
    · show Steps p.tables e below (T79.setTop (mkF m 185 #[iv p0, oJ q1, oS, oJ q2, oS, iv p3, iv (3 : Int32), iv (if (p0 &&& (4 : Int32)) = (0 : Int32) then (0 : Int32) else (1 : Int32)), iv qq, iv r0, iv r1, iv r2, iv w0, iv w1, iv w2, rv b63, rv b64, oU, oU, oU, oU] [])) _
      refine XS.lconst X79.here hx rfl (hb hby at_185) ?_
      show Steps p.tables e below (T79.setTop (mkF m 186 #[iv p0, oJ q1, oS, oJ q2, oS, iv p3, iv (3 : Int32), iv (if (p0 &&& (4 : Int32)) = (0 : Int32) then (0 : Int32) else (1 : Int32)), iv qq, iv r0, iv r1, iv r2, iv w0, iv w1, iv w2, rv b63, rv b64, oU, oU, oU, oU] [(.long (0 : Int64))])) _
      refine XS.lstore X79.here hx rfl (hb hby at_186) rfl (l' := #[iv p0, oJ q1, oS, oJ q2, oS, iv p3, iv (3 : Int32), iv (if (p0 &&& (4 : Int32)) = (0 : Int32) then (0 : Int32) else (1 : Int32)), iv qq, iv r0, iv r1, iv r2, iv w0, iv w1, iv w2, rv b63, rv b64, oJ (0 : Int64), oS, oU, oU]) rfl ?_
      show Steps p.tables e below (T79.setTop (mkF m 188 #[iv p0, oJ q1, oS, oJ q2, oS, iv p3, iv (3 : Int32), iv (if (p0 &&& (4 : Int32)) = (0 : Int32) then (0 : Int32) else (1 : Int32)), iv qq, iv r0, iv r1, iv r2, iv w0, iv w1, iv w2, rv b63, rv b64, oJ (0 : Int64), oS, oU, oU] [])) _
      refine XS.iload X79.here hx rfl (hb hby at_188) rfl ?_
      show Steps p.tables e below (T79.setTop (mkF m 190 #[iv p0, oJ q1, oS, oJ q2, oS, iv p3, iv (3 : Int32), iv (if (p0 &&& (4 : Int32)) = (0 : Int32) then (0 : Int32) else (1 : Int32)), iv qq, iv r0, iv r1, iv r2, iv w0, iv w1, iv w2, rv b63, rv b64, oJ (0 : Int64), oS, oU, oU] [(.int (3 : Int32))])) _
      refine XS.ifNo X79.here hx rfl (hb hby at_190) rfl ((if0 _ _).trans (tlt (by decide : (0 : Int32) < (3 : Int32))).2.2.2) ?_
      show Steps p.tables e below (T79.setTop (mkF m 193 #[iv p0, oJ q1, oS, oJ q2, oS, iv p3, iv (3 : Int32), iv (if (p0 &&& (4 : Int32)) = (0 : Int32) then (0 : Int32) else (1 : Int32)), iv qq, iv r0, iv r1, iv r2, iv w0, iv w1, iv w2, rv b63, rv b64, oJ (0 : Int64), oS, oU, oU] [])) _
      refine XS.iload X79.here hx rfl (hb hby at_193) rfl ?_
      show Steps p.tables e below (T79.setTop (mkF m 195 #[iv p0, oJ q1, oS, oJ q2, oS, iv p3, iv (3 : Int32), iv (if (p0 &&& (4 : Int32)) = (0 : Int32) then (0 : Int32) else (1 : Int32)), iv qq, iv r0, iv r1, iv r2, iv w0, iv w1, iv w2, rv b63, rv b64, oJ (0 : Int64), oS, oU, oU] [(.int qq)])) _
      exact k
    by_cases hc80 : qq = (0 : Int32)
    · skip
      refine own_by (fun t k => XS.ifYes X79.here hx rfl (pc0 := 195) (pc' := 210) rfl (hb hby at_195) rfl ((if0 _ _).trans (teq hc80).1) (by decide) (by decide) k) ?_
      show own_Go p e below _ (T79.setTop (mkF m 210 #[iv p0, oJ q1, oS, oJ q2, oS, iv p3, iv (3 : Int32), iv (if (p0 &&& (4 : Int32)) = (0 : Int32) then (0 : Int32) else (1 : Int32)), iv qq, iv r0, iv r1, iv r2, iv w0, iv w1, iv w2, rv b63, rv b64, oJ (0 : Int64), oS, oU, oU] []))
      refine own_by (B := T79.setTop (mkF m 264 #[iv p0, oJ q1, oS, oJ q2, oS, iv p3, iv (3 : Int32), iv (if (p0 &&& (4 : Int32)) = (0 : Int32) then (0 : Int32) else (1 : Int32)), iv qq, iv r0, iv r1, iv r2, iv w0, iv w1, iv w2, rv b63, rv b64, oJ (((w1.toInt64) * (r1.toInt64)) + ((w2.toInt64) * (r2.toInt64))), oS, oU, oU] [(.int qq), (.ref b64), (.ref b63)])) (fun t k => ?_) ?_
      · show Steps p.tables e below (T79.setTop (mkF m 210 #[iv p0, oJ q1, oS, oJ q2, oS, iv p3, iv (3 : Int32), iv (if (p0 &&& (4 : Int32)) = (0 : Int32) then (0 : Int32) else (1 : Int32)), iv qq, iv r0, iv r1, iv r2, iv w0, iv w1, iv w2, rv b63, rv b64, oJ (0 : Int64), oS, oU, oU] [])) _
        refine XS.iload X79.here hx rfl (hb hby at_210) rfl ?_
        show Steps p.tables e below (T79.setTop (mkF m 212 #[iv p0, oJ q1, oS, oJ q2, oS, iv p3, iv (3 : Int32), iv (if (p0 &&& (4 : Int32)) = (0 : Int32) then (0 : Int32) else (1 : Int32)), iv qq, iv r0, iv r1, iv r2, iv w0, iv w1, iv w2, rv b63, rv b64, oJ (0 : Int64), oS, oU, oU] [(.int (3 : Int32))])) _
        refine XS.iconst X79.here hx rfl (hb hby at_212) ?_
        show Steps p.tables e below (T79.setTop (mkF m 213 #[iv p0, oJ q1, oS, oJ q2, oS, iv p3, iv (3 : Int32), iv (if (p0 &&& (4 : Int32)) = (0 : Int32) then (0 : Int32) else (1 : Int32)), iv qq, iv r0, iv r1, iv r2, iv w0, iv w1, iv w2, rv b63, rv b64, oJ (0 : Int64), oS, oU, oU] [(.int (1 : Int32)), (.int (3 : Int32))])) _
        refine XS.icmpNo X79.here hx rfl (hb hby at_213) rfl (tlt (by decide : (1 : Int32) < (3 : Int32))).2.2.2 ?_
        show Steps p.tables e below (T79.setTop (mkF m 216 #[iv p0, oJ q1, oS, oJ q2, oS, iv p3, iv (3 : Int32), iv (if (p0 &&& (4 : Int32)) = (0 : Int32) then (0 : Int32) else (1 : Int32)), iv qq, iv r0, iv r1, iv r2, iv w0, iv w1, iv w2, rv b63, rv b64, oJ (0 : Int64), oS, oU, oU] [])) _
        refine XS.iload X79.here hx rfl (hb hby at_216) rfl ?_
        show Steps p.tables e below (T79.setTop (mkF m 218 #[iv p0, oJ q1, oS, oJ q2, oS, iv p3, iv (3 : Int32), iv (if (p0 &&& (4 : Int32)) = (0 : Int32) then (0 : Int32) else (1 : Int32)), iv qq, iv r0, iv r1, iv r2, iv w0, iv w1, iv w2, rv b63, rv b64, oJ (0 : Int64), oS, oU, oU] [(.int qq)])) _
        refine XS.iconst X79.here hx rfl (hb hby at_218) ?_
        show Steps p.tables e below (T79.setTop (mkF m 219 #[iv p0, oJ q1, oS, oJ q2, oS, iv p3, iv (3 : Int32), iv (if (p0 &&& (4 : Int32)) = (0 : Int32) then (0 : Int32) else (1 : Int32)), iv qq, iv r0, iv r1, iv r2, iv w0, iv w1, iv w2, rv b63, rv b64, oJ (0 : Int64), oS, oU, oU] [(.int (1 : Int32)), (.int qq)])) _
        refine XS.icmpNo X79.here hx rfl (hb hby at_219) rfl (feq (by rw [hc80]; decide)).1 ?_
        show Steps p.tables e below (T79.setTop (mkF m 222 #[iv p0, oJ q1, oS, oJ q2, oS, iv p3, iv (3 : Int32), iv (if (p0 &&& (4 : Int32)) = (0 : Int32) then (0 : Int32) else (1 : Int32)), iv qq, iv r0, iv r1, iv r2, iv w0, iv w1, iv w2, rv b63, rv b64, oJ (0 : Int64), oS, oU, oU] [])) _
        refine XS.lload X79.here hx rfl (hb hby at_222) rfl ?_
        show Steps p.tables e below (T79.setTop (mkF m 224 #[iv p0, oJ q1, oS, oJ q2, oS, iv p3, iv (3 : Int32), iv (if (p0 &&& (4 : Int32)) = (0 : Int32) then (0 : Int32) else (1 : Int32)), iv qq, iv r0, iv r1, iv r2, iv w0, iv w1, iv w2, rv b63, rv b64, oJ (0 : Int64), oS, oU, oU] [(.long (0 : Int64))])) _
        refine XS.iload X79.here hx rfl (hb hby at_224) rfl ?_
        show Steps p.tables e below (T79.setTop (mkF m 226 #[iv p0, oJ q1, oS, oJ q2, oS, iv p3, iv (3 : Int32), iv (if (p0 &&& (4 : Int32)) = (0 : Int32) then (0 : Int32) else (1 : Int32)), iv qq, iv r0, iv r1, iv r2, iv w0, iv w1, iv w2, rv b63, rv b64, oJ (0 : Int64), oS, oU, oU] [(.int w1), (.long (0 : Int64))])) _
        refine XS.i2l X79.here hx rfl (hb hby at_226) rfl ?_
        show Steps p.tables e below (T79.setTop (mkF m 227 #[iv p0, oJ q1, oS, oJ q2, oS, iv p3, iv (3 : Int32), iv (if (p0 &&& (4 : Int32)) = (0 : Int32) then (0 : Int32) else (1 : Int32)), iv qq, iv r0, iv r1, iv r2, iv w0, iv w1, iv w2, rv b63, rv b64, oJ (0 : Int64), oS, oU, oU] [(.long (w1.toInt64)), (.long (0 : Int64))])) _
        refine XS.iload X79.here hx rfl (hb hby at_227) rfl ?_
        show Steps p.tables e below (T79.setTop (mkF m 229 #[iv p0, oJ q1, oS, oJ q2, oS, iv p3, iv (3 : Int32), iv (if (p0 &&& (4 : Int32)) = (0 : Int32) then (0 : Int32) else (1 : Int32)), iv qq, iv r0, iv r1, iv r2, iv w0, iv w1, iv w2, rv b63, rv b64, oJ (0 : Int64), oS, oU, oU] [(.int r1), (.long (w1.toInt64)), (.long (0 : Int64))])) _
        refine XS.i2l X79.here hx rfl (hb hby at_229) rfl ?_
        show Steps p.tables e below (T79.setTop (mkF m 230 #[iv p0, oJ q1, oS, oJ q2, oS, iv p3, iv (3 : Int32), iv (if (p0 &&& (4 : Int32)) = (0 : Int32) then (0 : Int32) else (1 : Int32)), iv qq, iv r0, iv r1, iv r2, iv w0, iv w1, iv w2, rv b63, rv b64, oJ (0 : Int64), oS, oU, oU] [(.long (r1.toInt64)), (.long (w1.toInt64)), (.long (0 : Int64))])) _
        refine XS.lmul X79.here hx rfl (hb hby at_230) rfl ?_
        show Steps p.tables e below (T79.setTop (mkF m 231 #[iv p0, oJ q1, oS, oJ q2, oS, iv p3, iv (3 : Int32), iv (if (p0 &&& (4 : Int32)) = (0 : Int32) then (0 : Int32) else (1 : Int32)), iv qq, iv r0, iv r1, iv r2, iv w0, iv w1, iv w2, rv b63, rv b64, oJ (0 : Int64), oS, oU, oU] [(.long ((w1.toInt64) * (r1.toInt64))), (.long (0 : Int64))])) _
        refine XS.ladd X79.here hx rfl (hb hby at_231) rfl ?_
        rw [Int64.zero_add]
        show Steps p.tables e below (T79.setTop (mkF m 232 #[iv p0, oJ q1, oS, oJ q2, oS, iv p3, iv (3 : Int32), iv (if (p0 &&& (4 : Int32)) = (0 : Int32) then (0 : Int32) else (1 : Int32)), iv qq, iv r0, iv r1, iv r2, iv w0, iv w1, iv w2, rv b63, rv b64, oJ (0 : Int64), oS, oU, oU] [(.long ((w1.toInt64) * (r1.toInt64)))])) _
        refine XS.lstore X79.here hx rfl (hb hby at_232) rfl (l' := #[iv p0, oJ q1, oS, oJ q2, oS, iv p3, iv (3 : Int32), iv (if (p0 &&& (4 : Int32)) = (0 : Int32) then (0 : Int32) else (1 : Int32)), iv qq, iv r0, iv r1, iv r2, iv w0, iv w1, iv w2, rv b63, rv b64, oJ ((w1.toInt64) * (r1.toInt64)), oS, oU, oU]) rfl ?_
        show Steps p.tables e below (T79.setTop (mkF m 234 #[iv p0, oJ q1, oS, oJ q2, oS, iv p3, iv (3 : Int32), iv (if (p0 &&& (4 : Int32)) = (0 : Int32) then (0 : Int32) else (1 : Int32)), iv qq, iv r0, iv r1, iv r2, iv w0, iv w1, iv w2, rv b63, rv b64, oJ ((w1.toInt64) * (r1.toInt64)), oS, oU, oU] [])) _
        refine XS.iload X79.here hx rfl (hb hby at_234) rfl ?_
        show Steps p.tables e below (T79.setTop (mkF m 236 #[iv p0, oJ q1, oS, oJ q2, oS, iv p3, iv (3 : Int32), iv (if (p0 &&& (4 : Int32)) = (0 : Int32) then (0 : Int32) else (1 : Int32)), iv qq, iv r0, iv r1, iv r2, iv w0, iv w1, iv w2, rv b63, rv b64, oJ ((w1.toInt64) * (r1.toInt64)), oS, oU, oU] [(.int (3 : Int32))])) _
        refine XS.iconst X79.here hx rfl (hb hby at_236) ?_
        show Steps p.tables e below (T79.setTop (mkF m 237 #[iv p0, oJ q1, oS, oJ q2, oS, iv p3, iv (3 : Int32), iv (if (p0 &&& (4 : Int32)) = (0 : Int32) then (0 : Int32) else (1 : Int32)), iv qq, iv r0, iv r1, iv r2, iv w0, iv w1, iv w2, rv b63, rv b64, oJ ((w1.toInt64) * (r1.toInt64)), oS, oU, oU] [(.int (2 : Int32)), (.int (3 : Int32))])) _
        refine XS.icmpNo X79.here hx rfl (hb hby at_237) rfl (tlt (by decide : (2 : Int32) < (3 : Int32))).2.2.2 ?_
        show Steps p.tables e below (T79.setTop (mkF m 240 #[iv p0, oJ q1, oS, oJ q2, oS, iv p3, iv (3 : Int32), iv (if (p0 &&& (4 : Int32)) = (0 : Int32) then (0 : Int32) else (1 : Int32)), iv qq, iv r0, iv r1, iv r2, iv w0, iv w1, iv w2, rv b63, rv b64, oJ ((w1.toInt64) * (r1.toInt64)), oS, oU, oU] [])) _
        refine XS.iload X79.here hx rfl (hb hby at_240) rfl ?_
        show Steps p.tables e below (T79.setTop (mkF m 242 #[iv p0, oJ q1, oS, oJ q2, oS, iv p3, iv (3 : Int32), iv (if (p0 &&& (4 : Int32)) = (0 : Int32) then (0 : Int32) else (1 : Int32)), iv qq, iv r0, iv r1, iv r2, iv w0, iv w1, iv w2, rv b63, rv b64, oJ ((w1.toInt64) * (r1.toInt64)), oS, oU, oU] [(.int qq)])) _
        refine XS.iconst X79.here hx rfl (hb hby at_242) ?_
        show Steps p.tables e below (T79.setTop (mkF m 243 #[iv p0, oJ q1, oS, oJ q2, oS, iv p3, iv (3 : Int32), iv (if (p0 &&& (4 : Int32)) = (0 : Int32) then (0 : Int32) else (1 : Int32)), iv qq, iv r0, iv r1, iv r2, iv w0, iv w1, iv w2, rv b63, rv b64, oJ ((w1.toInt64) * (r1.toInt64)), oS, oU, oU] [(.int (2 : Int32)), (.int qq)])) _
        refine XS.icmpNo X79.here hx rfl (hb hby at_243) rfl (feq (by rw [hc80]; decide)).1 ?_
        show Steps p.tables e below (T79.setTop (mkF m 246 #[iv p0, oJ q1, oS, oJ q2, oS, iv p3, iv (3 : Int32), iv (if (p0 &&& (4 : Int32)) = (0 : Int32) then (0 : Int32) else (1 : Int32)), iv qq, iv r0, iv r1, iv r2, iv w0, iv w1, iv w2, rv b63, rv b64, oJ ((w1.toInt64) * (r1.toInt64)), oS, oU, oU] [])) _
        refine XS.lload X79.here hx rfl (hb hby at_246) rfl ?_
        show Steps p.tables e below (T79.setTop (mkF m 248 #[iv p0, oJ q1, oS, oJ q2, oS, iv p3, iv (3 : Int32), iv (if (p0 &&& (4 : Int32)) = (0 : Int32) then (0 : Int32) else (1 : Int32)), iv qq, iv r0, iv r1, iv r2, iv w0, iv w1, iv w2, rv b63, rv b64, oJ ((w1.toInt64) * (r1.toInt64)), oS, oU, oU] [(.long ((w1.toInt64) * (r1.toInt64)))])) _
        refine XS.iload X79.here hx rfl (hb hby at_248) rfl ?_
        show Steps p.tables e below (T79.setTop (mkF m 250 #[iv p0, oJ q1, oS, oJ q2, oS, iv p3, iv (3 : Int32), iv (if (p0 &&& (4 : Int32)) = (0 : Int32) then (0 : Int32) else (1 : Int32)), iv qq, iv r0, iv r1, iv r2, iv w0, iv w1, iv w2, rv b63, rv b64, oJ ((w1.toInt64) * (r1.toInt64)), oS, oU, oU] [(.int w2), (.long ((w1.toInt64) * (r1.toInt64)))])) _
        refine XS.i2l X79.here hx rfl (hb hby at_250) rfl ?_
        show Steps p.tables e below (T79.setTop (mkF m 251 #[iv p0, oJ q1, oS, oJ q2, oS, iv p3, iv (3 : Int32), iv (if (p0 &&& (4 : Int32)) = (0 : Int32) then (0 : Int32) else (1 : Int32)), iv qq, iv r0, iv r1, iv r2, iv w0, iv w1, iv w2, rv b63, rv b64, oJ ((w1.toInt64) * (r1.toInt64)), oS, oU, oU] [(.long (w2.toInt64)), (.long ((w1.toInt64) * (r1.toInt64)))])) _
        refine XS.iload X79.here hx rfl (hb hby at_251) rfl ?_
        show Steps p.tables e below (T79.setTop (mkF m 253 #[iv p0, oJ q1, oS, oJ q2, oS, iv p3, iv (3 : Int32), iv (if (p0 &&& (4 : Int32)) = (0 : Int32) then (0 : Int32) else (1 : Int32)), iv qq, iv r0, iv r1, iv r2, iv w0, iv w1, iv w2, rv b63, rv b64, oJ ((w1.toInt64) * (r1.toInt64)), oS, oU, oU] [(.int r2), (.long (w2.toInt64)), (.long ((w1.toInt64) * (r1.toInt64)))])) _
        refine XS.i2l X79.here hx rfl (hb hby at_253) rfl ?_
        show Steps p.tables e below (T79.setTop (mkF m 254 #[iv p0, oJ q1, oS, oJ q2, oS, iv p3, iv (3 : Int32), iv (if (p0 &&& (4 : Int32)) = (0 : Int32) then (0 : Int32) else (1 : Int32)), iv qq, iv r0, iv r1, iv r2, iv w0, iv w1, iv w2, rv b63, rv b64, oJ ((w1.toInt64) * (r1.toInt64)), oS, oU, oU] [(.long (r2.toInt64)), (.long (w2.toInt64)), (.long ((w1.toInt64) * (r1.toInt64)))])) _
        refine XS.lmul X79.here hx rfl (hb hby at_254) rfl ?_
        show Steps p.tables e below (T79.setTop (mkF m 255 #[iv p0, oJ q1, oS, oJ q2, oS, iv p3, iv (3 : Int32), iv (if (p0 &&& (4 : Int32)) = (0 : Int32) then (0 : Int32) else (1 : Int32)), iv qq, iv r0, iv r1, iv r2, iv w0, iv w1, iv w2, rv b63, rv b64, oJ ((w1.toInt64) * (r1.toInt64)), oS, oU, oU] [(.long ((w2.toInt64) * (r2.toInt64))), (.long ((w1.toInt64) * (r1.toInt64)))])) _
        refine XS.ladd X79.here hx rfl (hb hby at_255) rfl ?_
        show Steps p.tables e below (T79.setTop (mkF m 256 #[iv p0, oJ q1, oS, oJ q2, oS, iv p3, iv (3 : Int32), iv (if (p0 &&& (4 : Int32)) = (0 : Int32) then (0 : Int32) else (1 : Int32)), iv qq, iv r0, iv r1, iv r2, iv w0, iv w1, iv w2, rv b63, rv b64, oJ ((w1.toInt64) * (r1.toInt64)), oS, oU, oU] [(.long (((w1.toInt64) * (r1.toInt64)) + ((w2.toInt64) * (r2.toInt64))))])) _
        refine XS.lstore X79.here hx rfl (hb hby at_256) rfl (l' := #[iv p0, oJ q1, oS, oJ q2, oS, iv p3, iv (3 : Int32), iv (if (p0 &&& (4 : Int32)) = (0 : Int32) then (0 : Int32) else (1 : Int32)), iv qq, iv r0, iv r1, iv r2, iv w0, iv w1, iv w2, rv b63, rv b64, oJ (((w1.toInt64) * (r1.toInt64)) + ((w2.toInt64) * (r2.toInt64))), oS, oU, oU]) rfl ?_
        show Steps p.tables e below (T79.setTop (mkF m 258 #[iv p0, oJ q1, oS, oJ q2, oS, iv p3, iv (3 : Int32), iv (if (p0 &&& (4 : Int32)) = (0 : Int32) then (0 : Int32) else (1 : Int32)), iv qq, iv r0, iv r1, iv r2, iv w0, iv w1, iv w2, rv b63, rv b64, oJ (((w1.toInt64) * (r1.toInt64)) + ((w2.toInt64) * (r2.toInt64))), oS, oU, oU] [])) _
        refine XS.aload X79.here hx rfl (hb hby at_258) rfl rfl ?_
        show Steps p.tables e below (T79.setTop (mkF m 260 #[iv p0, oJ q1, oS, oJ q2, oS, iv p3, iv (3 : Int32), iv (if (p0 &&& (4 : Int32)) = (0 : Int32) then (0 : Int32) else (1 : Int32)), iv qq, iv r0, iv r1, iv r2, iv w0, iv w1, iv w2, rv b63, rv b64, oJ (((w1.toInt64) * (r1.toInt64)) + ((w2.toInt64) * (r2.toInt64))), oS, oU, oU] [(.ref b63)])) _
        refine XS.aload X79.here hx rfl (hb hby at_260) rfl rfl ?_
        show Steps p.tables e below (T79.setTop (mkF m 262 #[iv p0, oJ q1, oS, oJ q2, oS, iv p3, iv (3 : Int32), iv (if (p0 &&& (4 : Int32)) = (0 : Int32) then (0 : Int32) else (1 : Int32)), iv qq, iv r0, iv r1, iv r2, iv w0, iv w1, iv w2, rv b63, rv b64, oJ (((w1.toInt64) * (r1.toInt64)) + ((w2.toInt64) * (r2.toInt64))), oS, oU, oU] [(.ref b64), (.ref b63)])) _
        refine XS.iload X79.here hx rfl (hb hby at_262) rfl ?_
        show Steps p.tables e below (T79.setTop (mkF m 264 #[iv p0, oJ q1, oS, oJ q2, oS, iv p3, iv (3 : Int32), iv (if (p0 &&& (4 : Int32)) = (0 : Int32) then (0 : Int32) else (1 : Int32)), iv qq, iv r0, iv r1, iv r2, iv w0, iv w1, iv w2, rv b63, rv b64, oJ (((w1.toInt64) * (r1.toInt64)) + ((w2.toInt64) * (r2.toInt64))), oS, oU, oU] [(.int qq), (.ref b64), (.ref b63)])) _
        exact k
      refine own_cc (own_callS X79 hx hZ (y := (⟨"com/example/rivulet/rivulet/flow/Flow", "expected", "([D[DI)D"⟩ : MethodName)) hown (hw _ (List.mem_of_getElem? (i := 3) rfl)) (hw _ (List.mem_of_getElem? (i := 4) rfl)) (hw _ (List.mem_of_getElem? (i := 5) rfl)) (hw _ (List.mem_of_getElem? (i := 6) rfl)) (by decide) (rm1_30 l Z a0 hw [] b63 b64 qq k63 k64 d66 d71 d76 d68 d73 d78 r0.toInt r1.toInt r2.toInt w0.toInt w1.toInt w2.toInt h79 n0 Z0 V_b63 V_b64 Y66 Y68 Y71 Y73 Y76 Y78 hc80.symm (by rw [hc80]; decide) (by rw [hc80]; decide)) e79 0 (by decide) (by decide) (by decide) (by decide) rfl (by rw [hml]; rfl) [(.ref b63), (.ref b64), (.int qq)] [] rfl (lenOf pd_0 rfl) rfl (by show 2 * 0 + _ ≤ _; exact Nat.le_of_eq rfl) (hb hby at_264)) fun T82 L82 v82 X82 hQ82 => ?_
      obtain ⟨x_82, rfl, N82, e82, YX'⟩ := hQ82
      replace N0 := Fr.app N0 N82
      have YX := YX'
      show own_Go p e below _ (T82.setTop (mkF m 267 #[iv p0, oJ q1, oS, oJ q2, oS, iv p3, iv (3 : Int32), iv (if (p0 &&& (4 : Int32)) = (0 : Int32) then (0 : Int32) else (1 : Int32)), iv qq, iv r0, iv r1, iv r2, iv w0, iv w1, iv w2, rv b63, rv b64, oJ (((w1.toInt64) * (r1.toInt64)) + ((w2.toInt64) * (r2.toInt64))), oS, oU, oU] [(.double x_82)]))
      refine own_by (B := T82.setTop (mkF m 274 #[iv p0, oJ q1, oS, oJ q2, oS, iv p3, iv (3 : Int32), iv (if (p0 &&& (4 : Int32)) = (0 : Int32) then (0 : Int32) else (1 : Int32)), iv qq, iv r0, iv r1, iv r2, iv w0, iv w1, iv w2, rv b63, rv b64, oJ (((w1.toInt64) * (r1.toInt64)) + ((w2.toInt64) * (r2.toInt64))), oS, oD x_82, oS] [(.double (4652218415073722368 : UInt64)), (.double x_82)])) (fun t k => ?_) ?_
      · show Steps p.tables e below (T82.setTop (mkF m 267 #[iv p0, oJ q1, oS, oJ q2, oS, iv p3, iv (3 : Int32), iv (if (p0 &&& (4 : Int32)) = (0 : Int32) then (0 : Int32) else (1 : Int32)), iv qq, iv r0, iv r1, iv r2, iv w0, iv w1, iv w2, rv b63, rv b64, oJ (((w1.toInt64) * (r1.toInt64)) + ((w2.toInt64) * (r2.toInt64))), oS, oU, oU] [(.double x_82)])) _
        refine XS.dstore X82.here hx rfl (hb hby at_267) rfl (l' := #[iv p0, oJ q1, oS, oJ q2, oS, iv p3, iv (3 : Int32), iv (if (p0 &&& (4 : Int32)) = (0 : Int32) then (0 : Int32) else (1 : Int32)), iv qq, iv r0, iv r1, iv r2, iv w0, iv w1, iv w2, rv b63, rv b64, oJ (((w1.toInt64) * (r1.toInt64)) + ((w2.toInt64) * (r2.toInt64))), oS, oD x_82, oS]) rfl ?_
        show Steps p.tables e below (T82.setTop (mkF m 269 #[iv p0, oJ q1, oS, oJ q2, oS, iv p3, iv (3 : Int32), iv (if (p0 &&& (4 : Int32)) = (0 : Int32) then (0 : Int32) else (1 : Int32)), iv qq, iv r0, iv r1, iv r2, iv w0, iv w1, iv w2, rv b63, rv b64, oJ (((w1.toInt64) * (r1.toInt64)) + ((w2.toInt64) * (r2.toInt64))), oS, oD x_82, oS] [])) _
        refine XS.dload X82.here hx rfl (hb hby at_269) rfl ?_
        show Steps p.tables e below (T82.setTop (mkF m 271 #[iv p0, oJ q1, oS, oJ q2, oS, iv p3, iv (3 : Int32), iv (if (p0 &&& (4 : Int32)) = (0 : Int32) then (0 : Int32) else (1 : Int32)), iv qq, iv r0, iv r1, iv r2, iv w0, iv w1, iv w2, rv b63, rv b64, oJ (((w1.toInt64) * (r1.toInt64)) + ((w2.toInt64) * (r2.toInt64))), oS, oD x_82, oS] [(.double x_82)])) _
        refine X82.ldc2DoubleC hx hown (mvT hZ (hw _ (List.mem_of_getElem? (i := 7) rfl))) (g := (mkF m 271 #[iv p0, oJ q1, oS, oJ q2, oS, iv p3, iv (3 : Int32), iv (if (p0 &&& (4 : Int32)) = (0 : Int32) then (0 : Int32) else (1 : Int32)), iv qq, iv r0, iv r1, iv r2, iv w0, iv w1, iv w2, rv b63, rv b64, oJ (((w1.toInt64) * (r1.toInt64)) + ((w2.toInt64) * (r2.toInt64))), oS, oD x_82, oS] [(.double x_82)])) rfl (hb hby at_271) _ ?_
        show Steps p.tables e below (T82.setTop (mkF m 274 #[iv p0, oJ q1, oS, oJ q2, oS, iv p3, iv (3 : Int32), iv (if (p0 &&& (4 : Int32)) = (0 : Int32) then (0 : Int32) else (1 : Int32)), iv qq, iv r0, iv r1, iv r2, iv w0, iv w1, iv w2, rv b63, rv b64, oJ (((w1.toInt64) * (r1.toInt64)) + ((w2.toInt64) * (r2.toInt64))), oS, oD x_82, oS] [(.double (4652218415073722368 : UInt64)), (.double x_82)])) _
        exact k
      have Y83 : own_Di ((0 + (w1.toInt * r1.toInt)) + (w2.toInt * r2.toInt)) 67108864 (FP.dmul x_82 (4652218415073722368 : UInt64)) := (own_dback YX (by decide))
      refine own_by (fun t k => XS.dmulS X82.here hx rfl (hb hby at_274) rfl (own_nnI Y83) rfl k) ?_
      generalize (FP.dmul x_82 (4652218415073722368 : UInt64)) = d83 at Y83 ⊢
      show own_Go p e below _ (T82.setTop (mkF m 275 #[iv p0, oJ q1, oS, oJ q2, oS, iv p3, iv (3 : Int32), iv (if (p0 &&& (4 : Int32)) = (0 : Int32) then (0 : Int32) else (1 : Int32)), iv qq, iv r0, iv r1, iv r2, iv w0, iv w1, iv w2, rv b63, rv b64, oJ (((w1.toInt64) * (r1.toInt64)) + ((w2.toInt64) * (r2.toInt64))), oS, oD x_82, oS] [(.double d83)]))
      refine own_by (B := T82.setTop (mkF m 277 #[iv p0, oJ q1, oS, oJ q2, oS, iv p3, iv (3 : Int32), iv (if (p0 &&& (4 : Int32)) = (0 : Int32) then (0 : Int32) else (1 : Int32)), iv qq, iv r0, iv r1, iv r2, iv w0, iv w1, iv w2, rv b63, rv b64, oJ (((w1.toInt64) * (r1.toInt64)) + ((w2.toInt64) * (r2.toInt64))), oS, oD x_82, oS] [(.long (((w1.toInt64) * (r1.toInt64)) + ((w2.toInt64) * (r2.toInt64)))), (.double d83)])) (fun t k => ?_) ?_
      · show Steps p.tables e below (T82.setTop (mkF m 275 #[iv p0, oJ q1, oS, oJ q2, oS, iv p3, iv (3 : Int32), iv (if (p0 &&& (4 : Int32)) = (0 : Int32) then (0 : Int32) else (1 : Int32)), iv qq, iv r0, iv r1, iv r2, iv w0, iv w1, iv w2, rv b63, rv b64, oJ (((w1.toInt64) * (r1.toInt64)) + ((w2.toInt64) * (r2.toInt64))), oS, oD x_82, oS] [(.double d83)])) _
        refine XS.lload X82.here hx rfl (hb hby at_275) rfl ?_
        show Steps p.tables e below (T82.setTop (mkF m 277 #[iv p0, oJ q1, oS, oJ q2, oS, iv p3, iv (3 : Int32), iv (if (p0 &&& (4 : Int32)) = (0 : Int32) then (0 : Int32) else (1 : Int32)), iv qq, iv r0, iv r1, iv r2, iv w0, iv w1, iv w2, rv b63, rv b64, oJ (((w1.toInt64) * (r1.toInt64)) + ((w2.toInt64) * (r2.toInt64))), oS, oD x_82, oS] [(.long (((w1.toInt64) * (r1.toInt64)) + ((w2.toInt64) * (r2.toInt64)))), (.double d83)])) _
        exact k
      have t85_1 := own_pr w1 r1 bw1 br1
      have t85_2 := own_pr w2 r2 bw2 br2
      have s85_2 := own_sm _ _ _ _ t85_1.2 t85_2.2 (show 33554432 + 33554432 ≤ 2 ^ 53 by decide)
      have Y84 : own_Di (((w1.toInt64) * (r1.toInt64)) + ((w2.toInt64) * (r2.toInt64))).toInt 67108864 (FP.l2d (((w1.toInt64) * (r1.toInt64)) + ((w2.toInt64) * (r2.toInt64)))) := (own_l2d (((w1.toInt64) * (r1.toInt64)) + ((w2.toInt64) * (r2.toInt64))) 67108864 s85_2.2 (by decide))
      refine own_by (fun t k => XS.l2dS X82.here hx rfl (hb hby at_277) rfl rfl k) ?_
      generalize (FP.l2d (((w1.toInt64) * (r1.toInt64)) + ((w2.toInt64) * (r2.toInt64)))) = d84 at Y84 ⊢
      show own_Go p e below _ (T82.setTop (mkF m 278 #[iv p0, oJ q1, oS, oJ q2, oS, iv p3, iv (3 : Int32), iv (if (p0 &&& (4 : Int32)) = (0 : Int32) then (0 : Int32) else (1 : Int32)), iv qq, iv r0, iv r1, iv r2, iv w0, iv w1, iv w2, rv b63, rv b64, oJ (((w1.toInt64) * (r1.toInt64)) + ((w2.toInt64) * (r2.toInt64))), oS, oD x_82, oS] [(.double d84), (.double d83)]))
      refine own_by (fun t k => XS.dcmpS X82.here hx rfl (hb hby at_278) rfl (v := (0 : Int32)) (own_dcmp Y83 Y84 (by simp only [Int.zero_add, t85_1.1, s85_2.1, t85_2.1]) .l) k) ?_
      show own_Go p e below _ (T82.setTop (mkF m 279 #[iv p0, oJ q1, oS, oJ q2, oS, iv p3, iv (3 : Int32), iv (if (p0 &&& (4 : Int32)) = (0 : Int32) then (0 : Int32) else (1 : Int32)), iv qq, iv r0, iv r1, iv r2, iv w0, iv w1, iv w2, rv b63, rv b64, oJ (((w1.toInt64) * (r1.toInt64)) + ((w2.toInt64) * (r2.toInt64))), oS, oD x_82, oS] [(.int (0 : Int32))]))
      refine own_by (B := T82.setTop (mkF m 287 #[iv p0, oJ q1, oS, oJ q2, oS, iv p3, iv (3 : Int32), iv (if (p0 &&& (4 : Int32)) = (0 : Int32) then (0 : Int32) else (1 : Int32)), iv qq, iv r0, iv r1, iv r2, iv w0, iv w1, iv w2, rv b63, rv b64, oJ (((w1.toInt64) * (r1.toInt64)) + ((w2.toInt64) * (r2.toInt64))), oS, oD x_82, oS] [(.int (1 : Int32))])) (fun t k => ?_) ?_
      · show Steps p.tables e below (T82.setTop (mkF m 279 #[iv p0, oJ q1, oS, oJ q2, oS, iv p3, iv (3 : Int32), iv (if (p0 &&& (4 : Int32)) = (0 : Int32) then (0 : Int32) else (1 : Int32)), iv qq, iv r0, iv r1, iv r2, iv w0, iv w1, iv w2, rv b63, rv b64, oJ (((w1.toInt64) * (r1.toInt64)) + ((w2.toInt64) * (r2.toInt64))), oS, oD x_82, oS] [(.int (0 : Int32))])) _
        refine XS.ifNo X82.here hx rfl (hb hby at_279) rfl ((if0 _ _).trans (teq (by decide : (0 : Int32) = (0 : Int32))).2) ?_
        show Steps p.tables e below (T82.setTop (mkF m 282 #[iv p0, oJ q1, oS, oJ q2, oS, iv p3, iv (3 : Int32), iv (if (p0 &&& (4 : Int32)) = (0 : Int32) then (0 : Int32) else (1 : Int32)), iv qq, iv r0, iv r1, iv r2, iv w0, iv w1, iv w2, rv b63, rv b64, oJ (((w1.toInt64) * (r1.toInt64)) + ((w2.toInt64) * (r2.toInt64))), oS, oD x_82, oS] [])) _
        refine XS.iconst X82.here hx rfl (hb hby at_282) ?_
        show Steps p.tables e below (T82.setTop (mkF m 283 #[iv p0, oJ q1, oS, oJ q2, oS, iv p3, iv (3 : Int32), iv (if (p0 &&& (4 : Int32)) = (0 : Int32) then (0 : Int32) else (1 : Int32)), iv qq, iv r0, iv r1, iv r2, iv w0, iv w1, iv w2, rv b63, rv b64, oJ (((w1.toInt64) * (r1.toInt64)) + ((w2.toInt64) * (r2.toInt64))), oS, oD x_82, oS] [(.int (1 : Int32))])) _
        refine XS.goto X82.here hx rfl (pc0 := 283) (pc' := 287) rfl (hb hby at_283) (by decide) (by decide) ?_
        show Steps p.tables e below (T82.setTop (mkF m 287 #[iv p0, oJ q1, oS, oJ q2, oS, iv p3, iv (3 : Int32), iv (if (p0 &&& (4 : Int32)) = (0 : Int32) then (0 : Int32) else (1 : Int32)), iv qq, iv r0, iv r1, iv r2, iv w0, iv w1, iv w2, rv b63, rv b64, oJ (((w1.toInt64) * (r1.toInt64)) + ((w2.toInt64) * (r2.toInt64))), oS, oD x_82, oS] [(.int (1 : Int32))])) _
        exact k
      exact own_retN X82 Bd.notSynchronized hx (t := .boolean) Bd.returns (by simp) (hb hby at_287) (by
          try rw [show T82.heap = h79 from e82]
          exact ⟨rfl, N0⟩) (by decide) (by decide)
    · skip
      refine own_by (fun t k => XS.ifNo X79.here hx rfl (hb hby at_195) rfl ((if0 _ _).trans (feq hc80).1) k) ?_
      show own_Go p e below _ (T79.setTop (mkF m 198 #[iv p0, oJ q1, oS, oJ q2, oS, iv p3, iv (3 : Int32), iv (if (p0 &&& (4 : Int32)) = (0 : Int32) then (0 : Int32) else (1 : Int32)), iv qq, iv r0, iv r1, iv r2, iv w0, iv w1, iv w2, rv b63, rv b64, oJ (0 : Int64), oS, oU, oU] []))
      refine own_by (B := T79.setTop (mkF m 219 #[iv p0, oJ q1, oS, oJ q2, oS, iv p3, iv (3 : Int32), iv (if (p0 &&& (4 : Int32)) = (0 : Int32) then (0 : Int32) else (1 : Int32)), iv qq, iv r0, iv r1, iv r2, iv w0, iv w1, iv w2, rv b63, rv b64, oJ ((w0.toInt64) * (r0.toInt64)), oS, oU, oU] [(.int (1 : Int32)), (.int qq)])) (fun t k => ?_) ?_
      · show Steps p.tables e below (T79.setTop (mkF m 198 #[iv p0, oJ q1, oS, oJ q2, oS, iv p3, iv (3 : Int32), iv (if (p0 &&& (4 : Int32)) = (0 : Int32) then (0 : Int32) else (1 : Int32)), iv qq, iv r0, iv r1, iv r2, iv w0, iv w1, iv w2, rv b63, rv b64, oJ (0 : Int64), oS, oU, oU] [])) _
        refine XS.lload X79.here hx rfl (hb hby at_198) rfl ?_
        show Steps p.tables e below (T79.setTop (mkF m 200 #[iv p0, oJ q1, oS, oJ q2, oS, iv p3, iv (3 : Int32), iv (if (p0 &&& (4 : Int32)) = (0 : Int32) then (0 : Int32) else (1 : Int32)), iv qq, iv r0, iv r1, iv r2, iv w0, iv w1, iv w2, rv b63, rv b64, oJ (0 : Int64), oS, oU, oU] [(.long (0 : Int64))])) _
        refine XS.iload X79.here hx rfl (hb hby at_200) rfl ?_
        show Steps p.tables e below (T79.setTop (mkF m 202 #[iv p0, oJ q1, oS, oJ q2, oS, iv p3, iv (3 : Int32), iv (if (p0 &&& (4 : Int32)) = (0 : Int32) then (0 : Int32) else (1 : Int32)), iv qq, iv r0, iv r1, iv r2, iv w0, iv w1, iv w2, rv b63, rv b64, oJ (0 : Int64), oS, oU, oU] [(.int w0), (.long (0 : Int64))])) _
        refine XS.i2l X79.here hx rfl (hb hby at_202) rfl ?_
        show Steps p.tables e below (T79.setTop (mkF m 203 #[iv p0, oJ q1, oS, oJ q2, oS, iv p3, iv (3 : Int32), iv (if (p0 &&& (4 : Int32)) = (0 : Int32) then (0 : Int32) else (1 : Int32)), iv qq, iv r0, iv r1, iv r2, iv w0, iv w1, iv w2, rv b63, rv b64, oJ (0 : Int64), oS, oU, oU] [(.long (w0.toInt64)), (.long (0 : Int64))])) _
        refine XS.iload X79.here hx rfl (hb hby at_203) rfl ?_
        show Steps p.tables e below (T79.setTop (mkF m 205 #[iv p0, oJ q1, oS, oJ q2, oS, iv p3, iv (3 : Int32), iv (if (p0 &&& (4 : Int32)) = (0 : Int32) then (0 : Int32) else (1 : Int32)), iv qq, iv r0, iv r1, iv r2, iv w0, iv w1, iv w2, rv b63, rv b64, oJ (0 : Int64), oS, oU, oU] [(.int r0), (.long (w0.toInt64)), (.long (0 : Int64))])) _
        refine XS.i2l X79.here hx rfl (hb hby at_205) rfl ?_
        show Steps p.tables e below (T79.setTop (mkF m 206 #[iv p0, oJ q1, oS, oJ q2, oS, iv p3, iv (3 : Int32), iv (if (p0 &&& (4 : Int32)) = (0 : Int32) then (0 : Int32) else (1 : Int32)), iv qq, iv r0, iv r1, iv r2, iv w0, iv w1, iv w2, rv b63, rv b64, oJ (0 : Int64), oS, oU, oU] [(.long (r0.toInt64)), (.long (w0.toInt64)), (.long (0 : Int64))])) _
        refine XS.lmul X79.here hx rfl (hb hby at_206) rfl ?_
        show Steps p.tables e below (T79.setTop (mkF m 207 #[iv p0, oJ q1, oS, oJ q2, oS, iv p3, iv (3 : Int32), iv (if (p0 &&& (4 : Int32)) = (0 : Int32) then (0 : Int32) else (1 : Int32)), iv qq, iv r0, iv r1, iv r2, iv w0, iv w1, iv w2, rv b63, rv b64, oJ (0 : Int64), oS, oU, oU] [(.long ((w0.toInt64) * (r0.toInt64))), (.long (0 : Int64))])) _
        refine XS.ladd X79.here hx rfl (hb hby at_207) rfl ?_
        rw [Int64.zero_add]
        show Steps p.tables e below (T79.setTop (mkF m 208 #[iv p0, oJ q1, oS, oJ q2, oS, iv p3, iv (3 : Int32), iv (if (p0 &&& (4 : Int32)) = (0 : Int32) then (0 : Int32) else (1 : Int32)), iv qq, iv r0, iv r1, iv r2, iv w0, iv w1, iv w2, rv b63, rv b64, oJ (0 : Int64), oS, oU, oU] [(.long ((w0.toInt64) * (r0.toInt64)))])) _
        refine XS.lstore X79.here hx rfl (hb hby at_208) rfl (l' := #[iv p0, oJ q1, oS, oJ q2, oS, iv p3, iv (3 : Int32), iv (if (p0 &&& (4 : Int32)) = (0 : Int32) then (0 : Int32) else (1 : Int32)), iv qq, iv r0, iv r1, iv r2, iv w0, iv w1, iv w2, rv b63, rv b64, oJ ((w0.toInt64) * (r0.toInt64)), oS, oU, oU]) rfl ?_
        show Steps p.tables e below (T79.setTop (mkF m 210 #[iv p0, oJ q1, oS, oJ q2, oS, iv p3, iv (3 : Int32), iv (if (p0 &&& (4 : Int32)) = (0 : Int32) then (0 : Int32) else (1 : Int32)), iv qq, iv r0, iv r1, iv r2, iv w0, iv w1, iv w2, rv b63, rv b64, oJ ((w0.toInt64) * (r0.toInt64)), oS, oU, oU] [])) _
        refine XS.iload X79.here hx rfl (hb hby at_210) rfl ?_
        show Steps p.tables e below (T79.setTop (mkF m 212 #[iv p0, oJ q1, oS, oJ q2, oS, iv p3, iv (3 : Int32), iv (if (p0 &&& (4 : Int32)) = (0 : Int32) then (0 : Int32) else (1 : Int32)), iv qq, iv r0, iv r1, iv r2, iv w0, iv w1, iv w2, rv b63, rv b64, oJ ((w0.toInt64) * (r0.toInt64)), oS, oU, oU] [(.int (3 : Int32))])) _
        refine XS.iconst X79.here hx rfl (hb hby at_212) ?_
        show Steps p.tables e below (T79.setTop (mkF m 213 #[iv p0, oJ q1, oS, oJ q2, oS, iv p3, iv (3 : Int32), iv (if (p0 &&& (4 : Int32)) = (0 : Int32) then (0 : Int32) else (1 : Int32)), iv qq, iv r0, iv r1, iv r2, iv w0, iv w1, iv w2, rv b63, rv b64, oJ ((w0.toInt64) * (r0.toInt64)), oS, oU, oU] [(.int (1 : Int32)), (.int (3 : Int32))])) _
        refine XS.icmpNo X79.here hx rfl (hb hby at_213) rfl (tlt (by decide : (1 : Int32) < (3 : Int32))).2.2.2 ?_
        show Steps p.tables e below (T79.setTop (mkF m 216 #[iv p0, oJ q1, oS, oJ q2, oS, iv p3, iv (3 : Int32), iv (if (p0 &&& (4 : Int32)) = (0 : Int32) then (0 : Int32) else (1 : Int32)), iv qq, iv r0, iv r1, iv r2, iv w0, iv w1, iv w2, rv b63, rv b64, oJ ((w0.toInt64) * (r0.toInt64)), oS, oU, oU] [])) _
        refine XS.iload X79.here hx rfl (hb hby at_216) rfl ?_
        show Steps p.tables e below (T79.setTop (mkF m 218 #[iv p0, oJ q1, oS, oJ q2, oS, iv p3, iv (3 : Int32), iv (if (p0 &&& (4 : Int32)) = (0 : Int32) then (0 : Int32) else (1 : Int32)), iv qq, iv r0, iv r1, iv r2, iv w0, iv w1, iv w2, rv b63, rv b64, oJ ((w0.toInt64) * (r0.toInt64)), oS, oU, oU] [(.int qq)])) _
        refine XS.iconst X79.here hx rfl (hb hby at_218) ?_
        show Steps p.tables e below (T79.setTop (mkF m 219 #[iv p0, oJ q1, oS, oJ q2, oS, iv p3, iv (3 : Int32), iv (if (p0 &&& (4 : Int32)) = (0 : Int32) then (0 : Int32) else (1 : Int32)), iv qq, iv r0, iv r1, iv r2, iv w0, iv w1, iv w2, rv b63, rv b64, oJ ((w0.toInt64) * (r0.toInt64)), oS, oU, oU] [(.int (1 : Int32)), (.int qq)])) _
        exact k
      by_cases hc87 : qq = (1 : Int32)
      · skip
        refine own_by (fun t k => XS.icmpYes X79.here hx rfl (pc0 := 219) (pc' := 234) rfl (hb hby at_219) rfl (teq hc87).1 (by decide) (by decide) k) ?_
        show own_Go p e below _ (T79.setTop (mkF m 234 #[iv p0, oJ q1, oS, oJ q2, oS, iv p3, iv (3 : Int32), iv (if (p0 &&& (4 : Int32)) = (0 : Int32) then (0 : Int32) else (1 : Int32)), iv qq, iv r0, iv r1, iv r2, iv w0, iv w1, iv w2, rv b63, rv b64, oJ ((w0.toInt64) * (r0.toInt64)), oS, oU, oU] []))
        refine own_by (B := T79.setTop (mkF m 264 #[iv p0, oJ q1, oS, oJ q2, oS, iv p3, iv (3 : Int32), iv (if (p0 &&& (4 : Int32)) = (0 : Int32) then (0 : Int32) else (1 : Int32)), iv qq, iv r0, iv r1, iv r2, iv w0, iv w1, iv w2, rv b63, rv b64, oJ (((w0.toInt64) * (r0.toInt64)) + ((w2.toInt64) * (r2.toInt64))), oS, oU, oU] [(.int qq), (.ref b64), (.ref b63)])) (fun t k => ?_) ?_
        · show Steps p.tables e below (T79.setTop (mkF m 234 #[iv p0, oJ q1, oS, oJ q2, oS, iv p3, iv (3 : Int32), iv (if (p0 &&& (4 : Int32)) = (0 : Int32) then (0 : Int32) else (1 : Int32)), iv qq, iv r0, iv r1, iv r2, iv w0, iv w1, iv w2, rv b63, rv b64, oJ ((w0.toInt64) * (r0.toInt64)), oS, oU, oU] [])) _
          refine XS.iload X79.here hx rfl (hb hby at_234) rfl ?_
          show Steps p.tables e below (T79.setTop (mkF m 236 #[iv p0, oJ q1, oS, oJ q2, oS, iv p3, iv (3 : Int32), iv (if (p0 &&& (4 : Int32)) = (0 : Int32) then (0 : Int32) else (1 : Int32)), iv qq, iv r0, iv r1, iv r2, iv w0, iv w1, iv w2, rv b63, rv b64, oJ ((w0.toInt64) * (r0.toInt64)), oS, oU, oU] [(.int (3 : Int32))])) _
          refine XS.iconst X79.here hx rfl (hb hby at_236) ?_
          show Steps p.tables e below (T79.setTop (mkF m 237 #[iv p0, oJ q1, oS, oJ q2, oS, iv p3, iv (3 : Int32), iv (if (p0 &&& (4 : Int32)) = (0 : Int32) then (0 : Int32) else (1 : Int32)), iv qq, iv r0, iv r1, iv r2, iv w0, iv w1, iv w2, rv b63, rv b64, oJ ((w0.toInt64) * (r0.toInt64)), oS, oU, oU] [(.int (2 : Int32)), (.int (3 : Int32))])) _
          refine XS.icmpNo X79.here hx rfl (hb hby at_237) rfl (tlt (by decide : (2 : Int32) < (3 : Int32))).2.2.2 ?_
          show Steps p.tables e below (T79.setTop (mkF m 240 #[iv p0, oJ q1, oS, oJ q2, oS, iv p3, iv (3 : Int32), iv (if (p0 &&& (4 : Int32)) = (0 : Int32) then (0 : Int32) else (1 : Int32)), iv qq, iv r0, iv r1, iv r2, iv w0, iv w1, iv w2, rv b63, rv b64, oJ ((w0.toInt64) * (r0.toInt64)), oS, oU, oU] [])) _
          refine XS.iload X79.here hx rfl (hb hby at_240) rfl ?_
          show Steps p.tables e below (T79.setTop (mkF m 242 #[iv p0, oJ q1, oS, oJ q2, oS, iv p3, iv (3 : Int32), iv (if (p0 &&& (4 : Int32)) = (0 : Int32) then (0 : Int32) else (1 : Int32)), iv qq, iv r0, iv r1, iv r2, iv w0, iv w1, iv w2, rv b63, rv b64, oJ ((w0.toInt64) * (r0.toInt64)), oS, oU, oU] [(.int qq)])) _
          refine XS.iconst X79.here hx rfl (hb hby at_242) ?_
          show Steps p.tables e below (T79.setTop (mkF m 243 #[iv p0, oJ q1, oS, oJ q2, oS, iv p3, iv (3 : Int32), iv (if (p0 &&& (4 : Int32)) = (0 : Int32) then (0 : Int32) else (1 : Int32)), iv qq, iv r0, iv r1, iv r2, iv w0, iv w1, iv w2, rv b63, rv b64, oJ ((w0.toInt64) * (r0.toInt64)), oS, oU, oU] [(.int (2 : Int32)), (.int qq)])) _
          refine XS.icmpNo X79.here hx rfl (hb hby at_243) rfl (feq (by rw [hc87]; decide)).1 ?_
          show Steps p.tables e below (T79.setTop (mkF m 246 #[iv p0, oJ q1, oS, oJ q2, oS, iv p3, iv (3 : Int32), iv (if (p0 &&& (4 : Int32)) = (0 : Int32) then (0 : Int32) else (1 : Int32)), iv qq, iv r0, iv r1, iv r2, iv w0, iv w1, iv w2, rv b63, rv b64, oJ ((w0.toInt64) * (r0.toInt64)), oS, oU, oU] [])) _
          refine XS.lload X79.here hx rfl (hb hby at_246) rfl ?_
          show Steps p.tables e below (T79.setTop (mkF m 248 #[iv p0, oJ q1, oS, oJ q2, oS, iv p3, iv (3 : Int32), iv (if (p0 &&& (4 : Int32)) = (0 : Int32) then (0 : Int32) else (1 : Int32)), iv qq, iv r0, iv r1, iv r2, iv w0, iv w1, iv w2, rv b63, rv b64, oJ ((w0.toInt64) * (r0.toInt64)), oS, oU, oU] [(.long ((w0.toInt64) * (r0.toInt64)))])) _
          refine XS.iload X79.here hx rfl (hb hby at_248) rfl ?_
          show Steps p.tables e below (T79.setTop (mkF m 250 #[iv p0, oJ q1, oS, oJ q2, oS, iv p3, iv (3 : Int32), iv (if (p0 &&& (4 : Int32)) = (0 : Int32) then (0 : Int32) else (1 : Int32)), iv qq, iv r0, iv r1, iv r2, iv w0, iv w1, iv w2, rv b63, rv b64, oJ ((w0.toInt64) * (r0.toInt64)), oS, oU, oU] [(.int w2), (.long ((w0.toInt64) * (r0.toInt64)))])) _
          refine XS.i2l X79.here hx rfl (hb hby at_250) rfl ?_
          show Steps p.tables e below (T79.setTop (mkF m 251 #[iv p0, oJ q1, oS, oJ q2, oS, iv p3, iv (3 : Int32), iv (if (p0 &&& (4 : Int32)) = (0 : Int32) then (0 : Int32) else (1 : Int32)), iv qq, iv r0, iv r1, iv r2, iv w0, iv w1, iv w2, rv b63, rv b64, oJ ((w0.toInt64) * (r0.toInt64)), oS, oU, oU] [(.long (w2.toInt64)), (.long ((w0.toInt64) * (r0.toInt64)))])) _
          refine XS.iload X79.here hx rfl (hb hby at_251) rfl ?_
          show Steps p.tables e below (T79.setTop (mkF m 253 #[iv p0, oJ q1, oS, oJ q2, oS, iv p3, iv (3 : Int32), iv (if (p0 &&& (4 : Int32)) = (0 : Int32) then (0 : Int32) else (1 : Int32)), iv qq, iv r0, iv r1, iv r2, iv w0, iv w1, iv w2, rv b63, rv b64, oJ ((w0.toInt64) * (r0.toInt64)), oS, oU, oU] [(.int r2), (.long (w2.toInt64)), (.long ((w0.toInt64) * (r0.toInt64)))])) _
          refine XS.i2l X79.here hx rfl (hb hby at_253) rfl ?_
          show Steps p.tables e below (T79.setTop (mkF m 254 #[iv p0, oJ q1, oS, oJ q2, oS, iv p3, iv (3 : Int32), iv (if (p0 &&& (4 : Int32)) = (0 : Int32) then (0 : Int32) else (1 : Int32)), iv qq, iv r0, iv r1, iv r2, iv w0, iv w1, iv w2, rv b63, rv b64, oJ ((w0.toInt64) * (r0.toInt64)), oS, oU, oU] [(.long (r2.toInt64)), (.long (w2.toInt64)), (.long ((w0.toInt64) * (r0.toInt64)))])) _
          refine XS.lmul X79.here hx rfl (hb hby at_254) rfl ?_
          show Steps p.tables e below (T79.setTop (mkF m 255 #[iv p0, oJ q1, oS, oJ q2, oS, iv p3, iv (3 : Int32), iv (if (p0 &&& (4 : Int32)) = (0 : Int32) then (0 : Int32) else (1 : Int32)), iv qq, iv r0, iv r1, iv r2, iv w0, iv w1, iv w2, rv b63, rv b64, oJ ((w0.toInt64) * (r0.toInt64)), oS, oU, oU] [(.long ((w2.toInt64) * (r2.toInt64))), (.long ((w0.toInt64) * (r0.toInt64)))])) _
          refine XS.ladd X79.here hx rfl (hb hby at_255) rfl ?_
          show Steps p.tables e below (T79.setTop (mkF m 256 #[iv p0, oJ q1, oS, oJ q2, oS, iv p3, iv (3 : Int32), iv (if (p0 &&& (4 : Int32)) = (0 : Int32) then (0 : Int32) else (1 : Int32)), iv qq, iv r0, iv r1, iv r2, iv w0, iv w1, iv w2, rv b63, rv b64, oJ ((w0.toInt64) * (r0.toInt64)), oS, oU, oU] [(.long (((w0.toInt64) * (r0.toInt64)) + ((w2.toInt64) * (r2.toInt64))))])) _
          refine XS.lstore X79.here hx rfl (hb hby at_256) rfl (l' := #[iv p0, oJ q1, oS, oJ q2, oS, iv p3, iv (3 : Int32), iv (if (p0 &&& (4 : Int32)) = (0 : Int32) then (0 : Int32) else (1 : Int32)), iv qq, iv r0, iv r1, iv r2, iv w0, iv w1, iv w2, rv b63, rv b64, oJ (((w0.toInt64) * (r0.toInt64)) + ((w2.toInt64) * (r2.toInt64))), oS, oU, oU]) rfl ?_
          show Steps p.tables e below (T79.setTop (mkF m 258 #[iv p0, oJ q1, oS, oJ q2, oS, iv p3, iv (3 : Int32), iv (if (p0 &&& (4 : Int32)) = (0 : Int32) then (0 : Int32) else (1 : Int32)), iv qq, iv r0, iv r1, iv r2, iv w0, iv w1, iv w2, rv b63, rv b64, oJ (((w0.toInt64) * (r0.toInt64)) + ((w2.toInt64) * (r2.toInt64))), oS, oU, oU] [])) _
          refine XS.aload X79.here hx rfl (hb hby at_258) rfl rfl ?_
          show Steps p.tables e below (T79.setTop (mkF m 260 #[iv p0, oJ q1, oS, oJ q2, oS, iv p3, iv (3 : Int32), iv (if (p0 &&& (4 : Int32)) = (0 : Int32) then (0 : Int32) else (1 : Int32)), iv qq, iv r0, iv r1, iv r2, iv w0, iv w1, iv w2, rv b63, rv b64, oJ (((w0.toInt64) * (r0.toInt64)) + ((w2.toInt64) * (r2.toInt64))), oS, oU, oU] [(.ref b63)])) _
          refine XS.aload X79.here hx rfl (hb hby at_260) rfl rfl ?_
          show Steps p.tables e below (T79.setTop (mkF m 262 #[iv p0, oJ q1, oS, oJ q2, oS, iv p3, iv (3 : Int32), iv (if (p0 &&& (4 : Int32)) = (0 : Int32) then (0 : Int32) else (1 : Int32)), iv qq, iv r0, iv r1, iv r2, iv w0, iv w1, iv w2, rv b63, rv b64, oJ (((w0.toInt64) * (r0.toInt64)) + ((w2.toInt64) * (r2.toInt64))), oS, oU, oU] [(.ref b64), (.ref b63)])) _
          refine XS.iload X79.here hx rfl (hb hby at_262) rfl ?_
          show Steps p.tables e below (T79.setTop (mkF m 264 #[iv p0, oJ q1, oS, oJ q2, oS, iv p3, iv (3 : Int32), iv (if (p0 &&& (4 : Int32)) = (0 : Int32) then (0 : Int32) else (1 : Int32)), iv qq, iv r0, iv r1, iv r2, iv w0, iv w1, iv w2, rv b63, rv b64, oJ (((w0.toInt64) * (r0.toInt64)) + ((w2.toInt64) * (r2.toInt64))), oS, oU, oU] [(.int qq), (.ref b64), (.ref b63)])) _
          exact k
        refine own_cc (own_callS X79 hx hZ (y := (⟨"com/example/rivulet/rivulet/flow/Flow", "expected", "([D[DI)D"⟩ : MethodName)) hown (hw _ (List.mem_of_getElem? (i := 3) rfl)) (hw _ (List.mem_of_getElem? (i := 4) rfl)) (hw _ (List.mem_of_getElem? (i := 5) rfl)) (hw _ (List.mem_of_getElem? (i := 6) rfl)) (by decide) (rm1_31 l Z a0 hw [] b63 b64 qq k63 k64 d66 d71 d76 d68 d73 d78 r0.toInt r1.toInt r2.toInt w0.toInt w1.toInt w2.toInt h79 n0 Z0 V_b63 V_b64 Y66 Y68 Y71 Y73 Y76 Y78 (by rw [hc87]; decide) hc87.symm (by rw [hc87]; decide)) e79 0 (by decide) (by decide) (by decide) (by decide) rfl (by rw [hml]; rfl) [(.ref b63), (.ref b64), (.int qq)] [] rfl (lenOf pd_0 rfl) rfl (by show 2 * 0 + _ ≤ _; exact Nat.le_of_eq rfl) (hb hby at_264)) fun T89 L89 v89 X89 hQ89 => ?_
        obtain ⟨x_89, rfl, N89, e89, YX'⟩ := hQ89
        replace N0 := Fr.app N0 N89
        have YX := YX'
        show own_Go p e below _ (T89.setTop (mkF m 267 #[iv p0, oJ q1, oS, oJ q2, oS, iv p3, iv (3 : Int32), iv (if (p0 &&& (4 : Int32)) = (0 : Int32) then (0 : Int32) else (1 : Int32)), iv qq, iv r0, iv r1, iv r2, iv w0, iv w1, iv w2, rv b63, rv b64, oJ (((w0.toInt64) * (r0.toInt64)) + ((w2.toInt64) * (r2.toInt64))), oS, oU, oU] [(.double x_89)]))
        refine own_by (B := T89.setTop (mkF m 274 #[iv p0, oJ q1, oS, oJ q2, oS, iv p3, iv (3 : Int32), iv (if (p0 &&& (4 : Int32)) = (0 : Int32) then (0 : Int32) else (1 : Int32)), iv qq, iv r0, iv r1, iv r2, iv w0, iv w1, iv w2, rv b63, rv b64, oJ (((w0.toInt64) * (r0.toInt64)) + ((w2.toInt64) * (r2.toInt64))), oS, oD x_89, oS] [(.double (4652218415073722368 : UInt64)), (.double x_89)])) (fun t k => ?_) ?_
        · show Steps p.tables e below (T89.setTop (mkF m 267 #[iv p0, oJ q1, oS, oJ q2, oS, iv p3, iv (3 : Int32), iv (if (p0 &&& (4 : Int32)) = (0 : Int32) then (0 : Int32) else (1 : Int32)), iv qq, iv r0, iv r1, iv r2, iv w0, iv w1, iv w2, rv b63, rv b64, oJ (((w0.toInt64) * (r0.toInt64)) + ((w2.toInt64) * (r2.toInt64))), oS, oU, oU] [(.double x_89)])) _
          refine XS.dstore X89.here hx rfl (hb hby at_267) rfl (l' := #[iv p0, oJ q1, oS, oJ q2, oS, iv p3, iv (3 : Int32), iv (if (p0 &&& (4 : Int32)) = (0 : Int32) then (0 : Int32) else (1 : Int32)), iv qq, iv r0, iv r1, iv r2, iv w0, iv w1, iv w2, rv b63, rv b64, oJ (((w0.toInt64) * (r0.toInt64)) + ((w2.toInt64) * (r2.toInt64))), oS, oD x_89, oS]) rfl ?_
          show Steps p.tables e below (T89.setTop (mkF m 269 #[iv p0, oJ q1, oS, oJ q2, oS, iv p3, iv (3 : Int32), iv (if (p0 &&& (4 : Int32)) = (0 : Int32) then (0 : Int32) else (1 : Int32)), iv qq, iv r0, iv r1, iv r2, iv w0, iv w1, iv w2, rv b63, rv b64, oJ (((w0.toInt64) * (r0.toInt64)) + ((w2.toInt64) * (r2.toInt64))), oS, oD x_89, oS] [])) _
          refine XS.dload X89.here hx rfl (hb hby at_269) rfl ?_
          show Steps p.tables e below (T89.setTop (mkF m 271 #[iv p0, oJ q1, oS, oJ q2, oS, iv p3, iv (3 : Int32), iv (if (p0 &&& (4 : Int32)) = (0 : Int32) then (0 : Int32) else (1 : Int32)), iv qq, iv r0, iv r1, iv r2, iv w0, iv w1, iv w2, rv b63, rv b64, oJ (((w0.toInt64) * (r0.toInt64)) + ((w2.toInt64) * (r2.toInt64))), oS, oD x_89, oS] [(.double x_89)])) _
          refine X89.ldc2DoubleC hx hown (mvT hZ (hw _ (List.mem_of_getElem? (i := 7) rfl))) (g := (mkF m 271 #[iv p0, oJ q1, oS, oJ q2, oS, iv p3, iv (3 : Int32), iv (if (p0 &&& (4 : Int32)) = (0 : Int32) then (0 : Int32) else (1 : Int32)), iv qq, iv r0, iv r1, iv r2, iv w0, iv w1, iv w2, rv b63, rv b64, oJ (((w0.toInt64) * (r0.toInt64)) + ((w2.toInt64) * (r2.toInt64))), oS, oD x_89, oS] [(.double x_89)])) rfl (hb hby at_271) _ ?_
          show Steps p.tables e below (T89.setTop (mkF m 274 #[iv p0, oJ q1, oS, oJ q2, oS, iv p3, iv (3 : Int32), iv (if (p0 &&& (4 : Int32)) = (0 : Int32) then (0 : Int32) else (1 : Int32)), iv qq, iv r0, iv r1, iv r2, iv w0, iv w1, iv w2, rv b63, rv b64, oJ (((w0.toInt64) * (r0.toInt64)) + ((w2.toInt64) * (r2.toInt64))), oS, oD x_89, oS] [(.double (4652218415073722368 : UInt64)), (.double x_89)])) _
          exact k
        have Y90 : own_Di ((0 + (w0.toInt * r0.toInt)) + (w2.toInt * r2.toInt)) 67108864 (FP.dmul x_89 (4652218415073722368 : UInt64)) := (own_dback YX (by decide))
        refine own_by (fun t k => XS.dmulS X89.here hx rfl (hb hby at_274) rfl (own_nnI Y90) rfl k) ?_
        generalize (FP.dmul x_89 (4652218415073722368 : UInt64)) = d90 at Y90 ⊢
        show own_Go p e below _ (T89.setTop (mkF m 275 #[iv p0, oJ q1, oS, oJ q2, oS, iv p3, iv (3 : Int32), iv (if (p0 &&& (4 : Int32)) = (0 : Int32) then (0 : Int32) else (1 : Int32)), iv qq, iv r0, iv r1, iv r2, iv w0, iv w1, iv w2, rv b63, rv b64, oJ (((w0.toInt64) * (r0.toInt64)) + ((w2.toInt64) * (r2.toInt64))), oS, oD x_89, oS] [(.double d90)]))
        refine own_by (B := T89.setTop (mkF m 277 #[iv p0, oJ q1, oS, oJ q2, oS, iv p3, iv (3 : Int32), iv (if (p0 &&& (4 : Int32)) = (0 : Int32) then (0 : Int32) else (1 : Int32)), iv qq, iv r0, iv r1, iv r2, iv w0, iv w1, iv w2, rv b63, rv b64, oJ (((w0.toInt64) * (r0.toInt64)) + ((w2.toInt64) * (r2.toInt64))), oS, oD x_89, oS] [(.long (((w0.toInt64) * (r0.toInt64)) + ((w2.toInt64) * (r2.toInt64)))), (.double d90)])) (fun t k => ?_) ?_
        · show Steps p.tables e below (T89.setTop (mkF m 275 #[iv p0, oJ q1, oS, oJ q2, oS, iv p3, iv (3 : Int32), iv (if (p0 &&& (4 : Int32)) = (0 : Int32) then (0 : Int32) else (1 : Int32)), iv qq, iv r0, iv r1, iv r2, iv w0, iv w1, iv w2, rv b63, rv b64, oJ (((w0.toInt64) * (r0.toInt64)) + ((w2.toInt64) * (r2.toInt64))), oS, oD x_89, oS] [(.double d90)])) _
          refine XS.lload X89.here hx rfl (hb hby at_275) rfl ?_
          show Steps p.tables e below (T89.setTop (mkF m 277 #[iv p0, oJ q1, oS, oJ q2, oS, iv p3, iv (3 : Int32), iv (if (p0 &&& (4 : Int32)) = (0 : Int32) then (0 : Int32) else (1 : Int32)), iv qq, iv r0, iv r1, iv r2, iv w0, iv w1, iv w2, rv b63, rv b64, oJ (((w0.toInt64) * (r0.toInt64)) + ((w2.toInt64) * (r2.toInt64))), oS, oD x_89, oS] [(.long (((w0.toInt64) * (r0.toInt64)) + ((w2.toInt64) * (r2.toInt64)))), (.double d90)])) _
          exact k
        have t92_0 := own_pr w0 r0 bw0 br0
        have t92_2 := own_pr w2 r2 bw2 br2
        have s92_2 := own_sm _ _ _ _ t92_0.2 t92_2.2 (show 33554432 + 33554432 ≤ 2 ^ 53 by decide)
        have Y91 : own_Di (((w0.toInt64) * (r0.toInt64)) + ((w2.toInt64) * (r2.toInt64))).toInt 67108864 (FP.l2d (((w0.toInt64) * (r0.toInt64)) + ((w2.toInt64) * (r2.toInt64)))) := (own_l2d (((w0.toInt64) * (r0.toInt64)) + ((w2.toInt64) * (r2.toInt64))) 67108864 s92_2.2 (by decide))
        refine own_by (fun t k => XS.l2dS X89.here hx rfl (hb hby at_277) rfl rfl k) ?_
        generalize (FP.l2d (((w0.toInt64) * (r0.toInt64)) + ((w2.toInt64) * (r2.toInt64)))) = d91 at Y91 ⊢
        show own_Go p e below _ (T89.setTop (mkF m 278 #[iv p0, oJ q1, oS, oJ q2, oS, iv p3, iv (3 : Int32), iv (if (p0 &&& (4 : Int32)) = (0 : Int32) then (0 : Int32) else (1 : Int32)), iv qq, iv r0, iv r1, iv r2, iv w0, iv w1, iv w2, rv b63, rv b64, oJ (((w0.toInt64) * (r0.toInt64)) + ((w2.toInt64) * (r2.toInt64))), oS, oD x_89, oS] [(.double d91), (.double d90)]))
        refine own_by (fun t k => XS.dcmpS X89.here hx rfl (hb hby at_278) rfl (v := (0 : Int32)) (own_dcmp Y90 Y91 (by simp only [Int.zero_add, t92_0.1, s92_2.1, t92_2.1]) .l) k) ?_
        show own_Go p e below _ (T89.setTop (mkF m 279 #[iv p0, oJ q1, oS, oJ q2, oS, iv p3, iv (3 : Int32), iv (if (p0 &&& (4 : Int32)) = (0 : Int32) then (0 : Int32) else (1 : Int32)), iv qq, iv r0, iv r1, iv r2, iv w0, iv w1, iv w2, rv b63, rv b64, oJ (((w0.toInt64) * (r0.toInt64)) + ((w2.toInt64) * (r2.toInt64))), oS, oD x_89, oS] [(.int (0 : Int32))]))
        refine own_by (B := T89.setTop (mkF m 287 #[iv p0, oJ q1, oS, oJ q2, oS, iv p3, iv (3 : Int32), iv (if (p0 &&& (4 : Int32)) = (0 : Int32) then (0 : Int32) else (1 : Int32)), iv qq, iv r0, iv r1, iv r2, iv w0, iv w1, iv w2, rv b63, rv b64, oJ (((w0.toInt64) * (r0.toInt64)) + ((w2.toInt64) * (r2.toInt64))), oS, oD x_89, oS] [(.int (1 : Int32))])) (fun t k => ?_) ?_
        · show Steps p.tables e below (T89.setTop (mkF m 279 #[iv p0, oJ q1, oS, oJ q2, oS, iv p3, iv (3 : Int32), iv (if (p0 &&& (4 : Int32)) = (0 : Int32) then (0 : Int32) else (1 : Int32)), iv qq, iv r0, iv r1, iv r2, iv w0, iv w1, iv w2, rv b63, rv b64, oJ (((w0.toInt64) * (r0.toInt64)) + ((w2.toInt64) * (r2.toInt64))), oS, oD x_89, oS] [(.int (0 : Int32))])) _
          refine XS.ifNo X89.here hx rfl (hb hby at_279) rfl ((if0 _ _).trans (teq (by decide : (0 : Int32) = (0 : Int32))).2) ?_
          show Steps p.tables e below (T89.setTop (mkF m 282 #[iv p0, oJ q1, oS, oJ q2, oS, iv p3, iv (3 : Int32), iv (if (p0 &&& (4 : Int32)) = (0 : Int32) then (0 : Int32) else (1 : Int32)), iv qq, iv r0, iv r1, iv r2, iv w0, iv w1, iv w2, rv b63, rv b64, oJ (((w0.toInt64) * (r0.toInt64)) + ((w2.toInt64) * (r2.toInt64))), oS, oD x_89, oS] [])) _
          refine XS.iconst X89.here hx rfl (hb hby at_282) ?_
          show Steps p.tables e below (T89.setTop (mkF m 283 #[iv p0, oJ q1, oS, oJ q2, oS, iv p3, iv (3 : Int32), iv (if (p0 &&& (4 : Int32)) = (0 : Int32) then (0 : Int32) else (1 : Int32)), iv qq, iv r0, iv r1, iv r2, iv w0, iv w1, iv w2, rv b63, rv b64, oJ (((w0.toInt64) * (r0.toInt64)) + ((w2.toInt64) * (r2.toInt64))), oS, oD x_89, oS] [(.int (1 : Int32))])) _
          refine XS.goto X89.here hx rfl (pc0 := 283) (pc' := 287) rfl (hb hby at_283) (by decide) (by decide) ?_
          show Steps p.tables e below (T89.setTop (mkF m 287 #[iv p0, oJ q1, oS, oJ q2, oS, iv p3, iv (3 : Int32), iv (if (p0 &&& (4 : Int32)) = (0 : Int32) then (0 : Int32) else (1 : Int32)), iv qq, iv r0, iv r1, iv r2, iv w0, iv w1, iv w2, rv b63, rv b64, oJ (((w0.toInt64) * (r0.toInt64)) + ((w2.toInt64) * (r2.toInt64))), oS, oD x_89, oS] [(.int (1 : Int32))])) _
          exact k
        exact own_retN X89 Bd.notSynchronized hx (t := .boolean) Bd.returns (by simp) (hb hby at_287) (by
            try rw [show T89.heap = h79 from e89]
            exact ⟨rfl, N0⟩) (by decide) (by decide)
      · skip
        refine own_by (fun t k => XS.icmpNo X79.here hx rfl (hb hby at_219) rfl (feq hc87).1 k) ?_
        show own_Go p e below _ (T79.setTop (mkF m 222 #[iv p0, oJ q1, oS, oJ q2, oS, iv p3, iv (3 : Int32), iv (if (p0 &&& (4 : Int32)) = (0 : Int32) then (0 : Int32) else (1 : Int32)), iv qq, iv r0, iv r1, iv r2, iv w0, iv w1, iv w2, rv b63, rv b64, oJ ((w0.toInt64) * (r0.toInt64)), oS, oU, oU] []))
        refine own_by (B := T79.setTop (mkF m 243 #[iv p0, oJ q1, oS, oJ q2, oS, iv p3, iv (3 : Int32), iv (if (p0 &&& (4 : Int32)) = (0 : Int32) then (0 : Int32) else (1 : Int32)), iv qq, iv r0, iv r1, iv r2, iv w0, iv w1, iv w2, rv b63, rv b64, oJ (((w0.toInt64) * (r0.toInt64)) + ((w1.toInt64) * (r1.toInt64))), oS, oU, oU] [(.int (2 : Int32)), (.int qq)])) (fun t k => ?_) ?_
        · show Steps p.tables e below (T79.setTop (mkF m 222 #[iv p0, oJ q1, oS, oJ q2, oS, iv p3, iv (3 : Int32), iv (if (p0 &&& (4 : Int32)) = (0 : Int32) then (0 : Int32) else (1 : Int32)), iv qq, iv r0, iv r1, iv r2, iv w0, iv w1, iv w2, rv b63, rv b64, oJ ((w0.toInt64) * (r0.toInt64)), oS, oU, oU] [])) _
          refine XS.lload X79.here hx rfl (hb hby at_222) rfl ?_
          show Steps p.tables e below (T79.setTop (mkF m 224 #[iv p0, oJ q1, oS, oJ q2, oS, iv p3, iv (3 : Int32), iv (if (p0 &&& (4 : Int32)) = (0 : Int32) then (0 : Int32) else (1 : Int32)), iv qq, iv r0, iv r1, iv r2, iv w0, iv w1, iv w2, rv b63, rv b64, oJ ((w0.toInt64) * (r0.toInt64)), oS, oU, oU] [(.long ((w0.toInt64) * (r0.toInt64)))])) _
          refine XS.iload X79.here hx rfl (hb hby at_224) rfl ?_
          show Steps p.tables e below (T79.setTop (mkF m 226 #[iv p0, oJ q1, oS, oJ q2, oS, iv p3, iv (3 : Int32), iv (if (p0 &&& (4 : Int32)) = (0 : Int32) then (0 : Int32) else (1 : Int32)), iv qq, iv r0, iv r1, iv r2, iv w0, iv w1, iv w2, rv b63, rv b64, oJ ((w0.toInt64) * (r0.toInt64)), oS, oU, oU] [(.int w1), (.long ((w0.toInt64) * (r0.toInt64)))])) _
          refine XS.i2l X79.here hx rfl (hb hby at_226) rfl ?_
          show Steps p.tables e below (T79.setTop (mkF m 227 #[iv p0, oJ q1, oS, oJ q2, oS, iv p3, iv (3 : Int32), iv (if (p0 &&& (4 : Int32)) = (0 : Int32) then (0 : Int32) else (1 : Int32)), iv qq, iv r0, iv r1, iv r2, iv w0, iv w1, iv w2, rv b63, rv b64, oJ ((w0.toInt64) * (r0.toInt64)), oS, oU, oU] [(.long (w1.toInt64)), (.long ((w0.toInt64) * (r0.toInt64)))])) _
          refine XS.iload X79.here hx rfl (hb hby at_227) rfl ?_
          show Steps p.tables e below (T79.setTop (mkF m 229 #[iv p0, oJ q1, oS, oJ q2, oS, iv p3, iv (3 : Int32), iv (if (p0 &&& (4 : Int32)) = (0 : Int32) then (0 : Int32) else (1 : Int32)), iv qq, iv r0, iv r1, iv r2, iv w0, iv w1, iv w2, rv b63, rv b64, oJ ((w0.toInt64) * (r0.toInt64)), oS, oU, oU] [(.int r1), (.long (w1.toInt64)), (.long ((w0.toInt64) * (r0.toInt64)))])) _
          refine XS.i2l X79.here hx rfl (hb hby at_229) rfl ?_
          show Steps p.tables e below (T79.setTop (mkF m 230 #[iv p0, oJ q1, oS, oJ q2, oS, iv p3, iv (3 : Int32), iv (if (p0 &&& (4 : Int32)) = (0 : Int32) then (0 : Int32) else (1 : Int32)), iv qq, iv r0, iv r1, iv r2, iv w0, iv w1, iv w2, rv b63, rv b64, oJ ((w0.toInt64) * (r0.toInt64)), oS, oU, oU] [(.long (r1.toInt64)), (.long (w1.toInt64)), (.long ((w0.toInt64) * (r0.toInt64)))])) _
          refine XS.lmul X79.here hx rfl (hb hby at_230) rfl ?_
          show Steps p.tables e below (T79.setTop (mkF m 231 #[iv p0, oJ q1, oS, oJ q2, oS, iv p3, iv (3 : Int32), iv (if (p0 &&& (4 : Int32)) = (0 : Int32) then (0 : Int32) else (1 : Int32)), iv qq, iv r0, iv r1, iv r2, iv w0, iv w1, iv w2, rv b63, rv b64, oJ ((w0.toInt64) * (r0.toInt64)), oS, oU, oU] [(.long ((w1.toInt64) * (r1.toInt64))), (.long ((w0.toInt64) * (r0.toInt64)))])) _
          refine XS.ladd X79.here hx rfl (hb hby at_231) rfl ?_
          show Steps p.tables e below (T79.setTop (mkF m 232 #[iv p0, oJ q1, oS, oJ q2, oS, iv p3, iv (3 : Int32), iv (if (p0 &&& (4 : Int32)) = (0 : Int32) then (0 : Int32) else (1 : Int32)), iv qq, iv r0, iv r1, iv r2, iv w0, iv w1, iv w2, rv b63, rv b64, oJ ((w0.toInt64) * (r0.toInt64)), oS, oU, oU] [(.long (((w0.toInt64) * (r0.toInt64)) + ((w1.toInt64) * (r1.toInt64))))])) _
          refine XS.lstore X79.here hx rfl (hb hby at_232) rfl (l' := #[iv p0, oJ q1, oS, oJ q2, oS, iv p3, iv (3 : Int32), iv (if (p0 &&& (4 : Int32)) = (0 : Int32) then (0 : Int32) else (1 : Int32)), iv qq, iv r0, iv r1, iv r2, iv w0, iv w1, iv w2, rv b63, rv b64, oJ (((w0.toInt64) * (r0.toInt64)) + ((w1.toInt64) * (r1.toInt64))), oS, oU, oU]) rfl ?_
          show Steps p.tables e below (T79.setTop (mkF m 234 #[iv p0, oJ q1, oS, oJ q2, oS, iv p3, iv (3 : Int32), iv (if (p0 &&& (4 : Int32)) = (0 : Int32) then (0 : Int32) else (1 : Int32)), iv qq, iv r0, iv r1, iv r2, iv w0, iv w1, iv w2, rv b63, rv b64, oJ (((w0.toInt64) * (r0.toInt64)) + ((w1.toInt64) * (r1.toInt64))), oS, oU, oU] [])) _
          refine XS.iload X79.here hx rfl (hb hby at_234) rfl ?_
          show Steps p.tables e below (T79.setTop (mkF m 236 #[iv p0, oJ q1, oS, oJ q2, oS, iv p3, iv (3 : Int32), iv (if (p0 &&& (4 : Int32)) = (0 : Int32) then (0 : Int32) else (1 : Int32)), iv qq, iv r0, iv r1, iv r2, iv w0, iv w1, iv w2, rv b63, rv b64, oJ (((w0.toInt64) * (r0.toInt64)) + ((w1.toInt64) * (r1.toInt64))), oS, oU, oU] [(.int (3 : Int32))])) _
          refine XS.iconst X79.here hx rfl (hb hby at_236) ?_
          show Steps p.tables e below (T79.setTop (mkF m 237 #[iv p0, oJ q1, oS, oJ q2, oS, iv p3, iv (3 : Int32), iv (if (p0 &&& (4 : Int32)) = (0 : Int32) then (0 : Int32) else (1 : Int32)), iv qq, iv r0, iv r1, iv r2, iv w0, iv w1, iv w2, rv b63, rv b64, oJ (((w0.toInt64) * (r0.toInt64)) + ((w1.toInt64) * (r1.toInt64))), oS, oU, oU] [(.int (2 : Int32)), (.int (3 : Int32))])) _
          refine XS.icmpNo X79.here hx rfl (hb hby at_237) rfl (tlt (by decide : (2 : Int32) < (3 : Int32))).2.2.2 ?_
          show Steps p.tables e below (T79.setTop (mkF m 240 #[iv p0, oJ q1, oS, oJ q2, oS, iv p3, iv (3 : Int32), iv (if (p0 &&& (4 : Int32)) = (0 : Int32) then (0 : Int32) else (1 : Int32)), iv qq, iv r0, iv r1, iv r2, iv w0, iv w1, iv w2, rv b63, rv b64, oJ (((w0.toInt64) * (r0.toInt64)) + ((w1.toInt64) * (r1.toInt64))), oS, oU, oU] [])) _
          refine XS.iload X79.here hx rfl (hb hby at_240) rfl ?_
          show Steps p.tables e below (T79.setTop (mkF m 242 #[iv p0, oJ q1, oS, oJ q2, oS, iv p3, iv (3 : Int32), iv (if (p0 &&& (4 : Int32)) = (0 : Int32) then (0 : Int32) else (1 : Int32)), iv qq, iv r0, iv r1, iv r2, iv w0, iv w1, iv w2, rv b63, rv b64, oJ (((w0.toInt64) * (r0.toInt64)) + ((w1.toInt64) * (r1.toInt64))), oS, oU, oU] [(.int qq)])) _
          refine XS.iconst X79.here hx rfl (hb hby at_242) ?_
          show Steps p.tables e below (T79.setTop (mkF m 243 #[iv p0, oJ q1, oS, oJ q2, oS, iv p3, iv (3 : Int32), iv (if (p0 &&& (4 : Int32)) = (0 : Int32) then (0 : Int32) else (1 : Int32)), iv qq, iv r0, iv r1, iv r2, iv w0, iv w1, iv w2, rv b63, rv b64, oJ (((w0.toInt64) * (r0.toInt64)) + ((w1.toInt64) * (r1.toInt64))), oS, oU, oU] [(.int (2 : Int32)), (.int qq)])) _
          exact k
        by_cases hc94 : qq = (2 : Int32)
        · skip
          refine own_by (fun t k => XS.icmpYes X79.here hx rfl (pc0 := 243) (pc' := 258) rfl (hb hby at_243) rfl (teq hc94).1 (by decide) (by decide) k) ?_
          show own_Go p e below _ (T79.setTop (mkF m 258 #[iv p0, oJ q1, oS, oJ q2, oS, iv p3, iv (3 : Int32), iv (if (p0 &&& (4 : Int32)) = (0 : Int32) then (0 : Int32) else (1 : Int32)), iv qq, iv r0, iv r1, iv r2, iv w0, iv w1, iv w2, rv b63, rv b64, oJ (((w0.toInt64) * (r0.toInt64)) + ((w1.toInt64) * (r1.toInt64))), oS, oU, oU] []))
          refine own_by (B := T79.setTop (mkF m 264 #[iv p0, oJ q1, oS, oJ q2, oS, iv p3, iv (3 : Int32), iv (if (p0 &&& (4 : Int32)) = (0 : Int32) then (0 : Int32) else (1 : Int32)), iv qq, iv r0, iv r1, iv r2, iv w0, iv w1, iv w2, rv b63, rv b64, oJ (((w0.toInt64) * (r0.toInt64)) + ((w1.toInt64) * (r1.toInt64))), oS, oU, oU] [(.int qq), (.ref b64), (.ref b63)])) (fun t k => ?_) ?_
          · show Steps p.tables e below (T79.setTop (mkF m 258 #[iv p0, oJ q1, oS, oJ q2, oS, iv p3, iv (3 : Int32), iv (if (p0 &&& (4 : Int32)) = (0 : Int32) then (0 : Int32) else (1 : Int32)), iv qq, iv r0, iv r1, iv r2, iv w0, iv w1, iv w2, rv b63, rv b64, oJ (((w0.toInt64) * (r0.toInt64)) + ((w1.toInt64) * (r1.toInt64))), oS, oU, oU] [])) _
            refine XS.aload X79.here hx rfl (hb hby at_258) rfl rfl ?_
            show Steps p.tables e below (T79.setTop (mkF m 260 #[iv p0, oJ q1, oS, oJ q2, oS, iv p3, iv (3 : Int32), iv (if (p0 &&& (4 : Int32)) = (0 : Int32) then (0 : Int32) else (1 : Int32)), iv qq, iv r0, iv r1, iv r2, iv w0, iv w1, iv w2, rv b63, rv b64, oJ (((w0.toInt64) * (r0.toInt64)) + ((w1.toInt64) * (r1.toInt64))), oS, oU, oU] [(.ref b63)])) _
            refine XS.aload X79.here hx rfl (hb hby at_260) rfl rfl ?_
            show Steps p.tables e below (T79.setTop (mkF m 262 #[iv p0, oJ q1, oS, oJ q2, oS, iv p3, iv (3 : Int32), iv (if (p0 &&& (4 : Int32)) = (0 : Int32) then (0 : Int32) else (1 : Int32)), iv qq, iv r0, iv r1, iv r2, iv w0, iv w1, iv w2, rv b63, rv b64, oJ (((w0.toInt64) * (r0.toInt64)) + ((w1.toInt64) * (r1.toInt64))), oS, oU, oU] [(.ref b64), (.ref b63)])) _
            refine XS.iload X79.here hx rfl (hb hby at_262) rfl ?_
            show Steps p.tables e below (T79.setTop (mkF m 264 #[iv p0, oJ q1, oS, oJ q2, oS, iv p3, iv (3 : Int32), iv (if (p0 &&& (4 : Int32)) = (0 : Int32) then (0 : Int32) else (1 : Int32)), iv qq, iv r0, iv r1, iv r2, iv w0, iv w1, iv w2, rv b63, rv b64, oJ (((w0.toInt64) * (r0.toInt64)) + ((w1.toInt64) * (r1.toInt64))), oS, oU, oU] [(.int qq), (.ref b64), (.ref b63)])) _
            exact k
          refine own_cc (own_callS X79 hx hZ (y := (⟨"com/example/rivulet/rivulet/flow/Flow", "expected", "([D[DI)D"⟩ : MethodName)) hown (hw _ (List.mem_of_getElem? (i := 3) rfl)) (hw _ (List.mem_of_getElem? (i := 4) rfl)) (hw _ (List.mem_of_getElem? (i := 5) rfl)) (hw _ (List.mem_of_getElem? (i := 6) rfl)) (by decide) (rm1_32 l Z a0 hw [] b63 b64 qq k63 k64 d66 d71 d76 d68 d73 d78 r0.toInt r1.toInt r2.toInt w0.toInt w1.toInt w2.toInt h79 n0 Z0 V_b63 V_b64 Y66 Y68 Y71 Y73 Y76 Y78 (by rw [hc94]; decide) (by rw [hc94]; decide) hc94.symm) e79 0 (by decide) (by decide) (by decide) (by decide) rfl (by rw [hml]; rfl) [(.ref b63), (.ref b64), (.int qq)] [] rfl (lenOf pd_0 rfl) rfl (by show 2 * 0 + _ ≤ _; exact Nat.le_of_eq rfl) (hb hby at_264)) fun T96 L96 v96 X96 hQ96 => ?_
          obtain ⟨x_96, rfl, N96, e96, YX'⟩ := hQ96
          replace N0 := Fr.app N0 N96
          have YX := YX'
          show own_Go p e below _ (T96.setTop (mkF m 267 #[iv p0, oJ q1, oS, oJ q2, oS, iv p3, iv (3 : Int32), iv (if (p0 &&& (4 : Int32)) = (0 : Int32) then (0 : Int32) else (1 : Int32)), iv qq, iv r0, iv r1, iv r2, iv w0, iv w1, iv w2, rv b63, rv b64, oJ (((w0.toInt64) * (r0.toInt64)) + ((w1.toInt64) * (r1.toInt64))), oS, oU, oU] [(.double x_96)]))
          refine own_by (B := T96.setTop (mkF m 274 #[iv p0, oJ q1, oS, oJ q2, oS, iv p3, iv (3 : Int32), iv (if (p0 &&& (4 : Int32)) = (0 : Int32) then (0 : Int32) else (1 : Int32)), iv qq, iv r0, iv r1, iv r2, iv w0, iv w1, iv w2, rv b63, rv b64, oJ (((w0.toInt64) * (r0.toInt64)) + ((w1.toInt64) * (r1.toInt64))), oS, oD x_96, oS] [(.double (4652218415073722368 : UInt64)), (.double x_96)])) (fun t k => ?_) ?_
          · show Steps p.tables e below (T96.setTop (mkF m 267 #[iv p0, oJ q1, oS, oJ q2, oS, iv p3, iv (3 : Int32), iv (if (p0 &&& (4 : Int32)) = (0 : Int32) then (0 : Int32) else (1 : Int32)), iv qq, iv r0, iv r1, iv r2, iv w0, iv w1, iv w2, rv b63, rv b64, oJ (((w0.toInt64) * (r0.toInt64)) + ((w1.toInt64) * (r1.toInt64))), oS, oU, oU] [(.double x_96)])) _
            refine XS.dstore X96.here hx rfl (hb hby at_267) rfl (l' := #[iv p0, oJ q1, oS, oJ q2, oS, iv p3, iv (3 : Int32), iv (if (p0 &&& (4 : Int32)) = (0 : Int32) then (0 : Int32) else (1 : Int32)), iv qq, iv r0, iv r1, iv r2, iv w0, iv w1, iv w2, rv b63, rv b64, oJ (((w0.toInt64) * (r0.toInt64)) + ((w1.toInt64) * (r1.toInt64))), oS, oD x_96, oS]) rfl ?_
            show Steps p.tables e below (T96.setTop (mkF m 269 #[iv p0, oJ q1, oS, oJ q2, oS, iv p3, iv (3 : Int32), iv (if (p0 &&& (4 : Int32)) = (0 : Int32) then (0 : Int32) else (1 : Int32)), iv qq, iv r0, iv r1, iv r2, iv w0, iv w1, iv w2, rv b63, rv b64, oJ (((w0.toInt64) * (r0.toInt64)) + ((w1.toInt64) * (r1.toInt64))), oS, oD x_96, oS] [])) _
            refine XS.dload X96.here hx rfl (hb hby at_269) rfl ?_
            show Steps p.tables e below (T96.setTop (mkF m 271 #[iv p0, oJ q1, oS, oJ q2, oS, iv p3, iv (3 : Int32), iv (if (p0 &&& (4 : Int32)) = (0 : Int32) then (0 : Int32) else (1 : Int32)), iv qq, iv r0, iv r1, iv r2, iv w0, iv w1, iv w2, rv b63, rv b64, oJ (((w0.toInt64) * (r0.toInt64)) + ((w1.toInt64) * (r1.toInt64))), oS, oD x_96, oS] [(.double x_96)])) _
            refine X96.ldc2DoubleC hx hown (mvT hZ (hw _ (List.mem_of_getElem? (i := 7) rfl))) (g := (mkF m 271 #[iv p0, oJ q1, oS, oJ q2, oS, iv p3, iv (3 : Int32), iv (if (p0 &&& (4 : Int32)) = (0 : Int32) then (0 : Int32) else (1 : Int32)), iv qq, iv r0, iv r1, iv r2, iv w0, iv w1, iv w2, rv b63, rv b64, oJ (((w0.toInt64) * (r0.toInt64)) + ((w1.toInt64) * (r1.toInt64))), oS, oD x_96, oS] [(.double x_96)])) rfl (hb hby at_271) _ ?_
            show Steps p.tables e below (T96.setTop (mkF m 274 #[iv p0, oJ q1, oS, oJ q2, oS, iv p3, iv (3 : Int32), iv (if (p0 &&& (4 : Int32)) = (0 : Int32) then (0 : Int32) else (1 : Int32)), iv qq, iv r0, iv r1, iv r2, iv w0, iv w1, iv w2, rv b63, rv b64, oJ (((w0.toInt64) * (r0.toInt64)) + ((w1.toInt64) * (r1.toInt64))), oS, oD x_96, oS] [(.double (4652218415073722368 : UInt64)), (.double x_96)])) _
            exact k
          have Y97 : own_Di ((0 + (w0.toInt * r0.toInt)) + (w1.toInt * r1.toInt)) 67108864 (FP.dmul x_96 (4652218415073722368 : UInt64)) := (own_dback YX (by decide))
          refine own_by (fun t k => XS.dmulS X96.here hx rfl (hb hby at_274) rfl (own_nnI Y97) rfl k) ?_
          generalize (FP.dmul x_96 (4652218415073722368 : UInt64)) = d97 at Y97 ⊢
          show own_Go p e below _ (T96.setTop (mkF m 275 #[iv p0, oJ q1, oS, oJ q2, oS, iv p3, iv (3 : Int32), iv (if (p0 &&& (4 : Int32)) = (0 : Int32) then (0 : Int32) else (1 : Int32)), iv qq, iv r0, iv r1, iv r2, iv w0, iv w1, iv w2, rv b63, rv b64, oJ (((w0.toInt64) * (r0.toInt64)) + ((w1.toInt64) * (r1.toInt64))), oS, oD x_96, oS] [(.double d97)]))
          refine own_by (B := T96.setTop (mkF m 277 #[iv p0, oJ q1, oS, oJ q2, oS, iv p3, iv (3 : Int32), iv (if (p0 &&& (4 : Int32)) = (0 : Int32) then (0 : Int32) else (1 : Int32)), iv qq, iv r0, iv r1, iv r2, iv w0, iv w1, iv w2, rv b63, rv b64, oJ (((w0.toInt64) * (r0.toInt64)) + ((w1.toInt64) * (r1.toInt64))), oS, oD x_96, oS] [(.long (((w0.toInt64) * (r0.toInt64)) + ((w1.toInt64) * (r1.toInt64)))), (.double d97)])) (fun t k => ?_) ?_
          · show Steps p.tables e below (T96.setTop (mkF m 275 #[iv p0, oJ q1, oS, oJ q2, oS, iv p3, iv (3 : Int32), iv (if (p0 &&& (4 : Int32)) = (0 : Int32) then (0 : Int32) else (1 : Int32)), iv qq, iv r0, iv r1, iv r2, iv w0, iv w1, iv w2, rv b63, rv b64, oJ (((w0.toInt64) * (r0.toInt64)) + ((w1.toInt64) * (r1.toInt64))), oS, oD x_96, oS] [(.double d97)])) _
            refine XS.lload X96.here hx rfl (hb hby at_275) rfl ?_
            show Steps p.tables e below (T96.setTop (mkF m 277 #[iv p0, oJ q1, oS, oJ q2, oS, iv p3, iv (3 : Int32), iv (if (p0 &&& (4 : Int32)) = (0 : Int32) then (0 : Int32) else (1 : Int32)), iv qq, iv r0, iv r1, iv r2, iv w0, iv w1, iv w2, rv b63, rv b64, oJ (((w0.toInt64) * (r0.toInt64)) + ((w1.toInt64) * (r1.toInt64))), oS, oD x_96, oS] [(.long (((w0.toInt64) * (r0.toInt64)) + ((w1.toInt64) * (r1.toInt64)))), (.double d97)])) _
            exact k
          have t99_0 := own_pr w0 r0 bw0 br0
          have t99_1 := own_pr w1 r1 bw1 br1
          have s99_1 := own_sm _ _ _ _ t99_0.2 t99_1.2 (show 33554432 + 33554432 ≤ 2 ^ 53 by decide)
          have Y98 : own_Di (((w0.toInt64) * (r0.toInt64)) + ((w1.toInt64) * (r1.toInt64))).toInt 67108864 (FP.l2d (((w0.toInt64) * (r0.toInt64)) + ((w1.toInt64) * (r1.toInt64)))) := (own_l2d (((w0.toInt64) * (r0.toInt64)) + ((w1.toInt64) * (r1.toInt64))) 67108864 s99_1.2 (by decide))
          refine own_by (fun t k => XS.l2dS X96.here hx rfl (hb hby at_277) rfl rfl k) ?_
          generalize (FP.l2d (((w0.toInt64) * (r0.toInt64)) + ((w1.toInt64) * (r1.toInt64)))) = d98 at Y98 ⊢
          show own_Go p e below _ (T96.setTop (mkF m 278 #[iv p0, oJ q1, oS, oJ q2, oS, iv p3, iv (3 : Int32), iv (if (p0 &&& (4 : Int32)) = (0 : Int32) then (0 : Int32) else (1 : Int32)), iv qq, iv r0, iv r1, iv r2, iv w0, iv w1, iv w2, rv b63, rv b64, oJ (((w0.toInt64) * (r0.toInt64)) + ((w1.toInt64) * (r1.toInt64))), oS, oD x_96, oS] [(.double d98), (.double d97)]))
          refine own_by (fun t k => XS.dcmpS X96.here hx rfl (hb hby at_278) rfl (v := (0 : Int32)) (own_dcmp Y97 Y98 (by simp only [Int.zero_add, t99_0.1, s99_1.1, t99_1.1]) .l) k) ?_
          show own_Go p e below _ (T96.setTop (mkF m 279 #[iv p0, oJ q1, oS, oJ q2, oS, iv p3, iv (3 : Int32), iv (if (p0 &&& (4 : Int32)) = (0 : Int32) then (0 : Int32) else (1 : Int32)), iv qq, iv r0, iv r1, iv r2, iv w0, iv w1, iv w2, rv b63, rv b64, oJ (((w0.toInt64) * (r0.toInt64)) + ((w1.toInt64) * (r1.toInt64))), oS, oD x_96, oS] [(.int (0 : Int32))]))
          refine own_by (B := T96.setTop (mkF m 287 #[iv p0, oJ q1, oS, oJ q2, oS, iv p3, iv (3 : Int32), iv (if (p0 &&& (4 : Int32)) = (0 : Int32) then (0 : Int32) else (1 : Int32)), iv qq, iv r0, iv r1, iv r2, iv w0, iv w1, iv w2, rv b63, rv b64, oJ (((w0.toInt64) * (r0.toInt64)) + ((w1.toInt64) * (r1.toInt64))), oS, oD x_96, oS] [(.int (1 : Int32))])) (fun t k => ?_) ?_
          · show Steps p.tables e below (T96.setTop (mkF m 279 #[iv p0, oJ q1, oS, oJ q2, oS, iv p3, iv (3 : Int32), iv (if (p0 &&& (4 : Int32)) = (0 : Int32) then (0 : Int32) else (1 : Int32)), iv qq, iv r0, iv r1, iv r2, iv w0, iv w1, iv w2, rv b63, rv b64, oJ (((w0.toInt64) * (r0.toInt64)) + ((w1.toInt64) * (r1.toInt64))), oS, oD x_96, oS] [(.int (0 : Int32))])) _
            refine XS.ifNo X96.here hx rfl (hb hby at_279) rfl ((if0 _ _).trans (teq (by decide : (0 : Int32) = (0 : Int32))).2) ?_
            show Steps p.tables e below (T96.setTop (mkF m 282 #[iv p0, oJ q1, oS, oJ q2, oS, iv p3, iv (3 : Int32), iv (if (p0 &&& (4 : Int32)) = (0 : Int32) then (0 : Int32) else (1 : Int32)), iv qq, iv r0, iv r1, iv r2, iv w0, iv w1, iv w2, rv b63, rv b64, oJ (((w0.toInt64) * (r0.toInt64)) + ((w1.toInt64) * (r1.toInt64))), oS, oD x_96, oS] [])) _
            refine XS.iconst X96.here hx rfl (hb hby at_282) ?_
            show Steps p.tables e below (T96.setTop (mkF m 283 #[iv p0, oJ q1, oS, oJ q2, oS, iv p3, iv (3 : Int32), iv (if (p0 &&& (4 : Int32)) = (0 : Int32) then (0 : Int32) else (1 : Int32)), iv qq, iv r0, iv r1, iv r2, iv w0, iv w1, iv w2, rv b63, rv b64, oJ (((w0.toInt64) * (r0.toInt64)) + ((w1.toInt64) * (r1.toInt64))), oS, oD x_96, oS] [(.int (1 : Int32))])) _
            refine XS.goto X96.here hx rfl (pc0 := 283) (pc' := 287) rfl (hb hby at_283) (by decide) (by decide) ?_
            show Steps p.tables e below (T96.setTop (mkF m 287 #[iv p0, oJ q1, oS, oJ q2, oS, iv p3, iv (3 : Int32), iv (if (p0 &&& (4 : Int32)) = (0 : Int32) then (0 : Int32) else (1 : Int32)), iv qq, iv r0, iv r1, iv r2, iv w0, iv w1, iv w2, rv b63, rv b64, oJ (((w0.toInt64) * (r0.toInt64)) + ((w1.toInt64) * (r1.toInt64))), oS, oD x_96, oS] [(.int (1 : Int32))])) _
            exact k
          exact own_retN X96 Bd.notSynchronized hx (t := .boolean) Bd.returns (by simp) (hb hby at_287) (by
              try rw [show T96.heap = h79 from e96]
              exact ⟨rfl, N0⟩) (by decide) (by decide)
        · skip
          refine own_by (fun t k => XS.icmpNo X79.here hx rfl (hb hby at_243) rfl (feq hc94).1 k) ?_
          show own_Go p e below _ (T79.setTop (mkF m 246 #[iv p0, oJ q1, oS, oJ q2, oS, iv p3, iv (3 : Int32), iv (if (p0 &&& (4 : Int32)) = (0 : Int32) then (0 : Int32) else (1 : Int32)), iv qq, iv r0, iv r1, iv r2, iv w0, iv w1, iv w2, rv b63, rv b64, oJ (((w0.toInt64) * (r0.toInt64)) + ((w1.toInt64) * (r1.toInt64))), oS, oU, oU] []))
          refine own_by (B := T79.setTop (mkF m 264 #[iv p0, oJ q1, oS, oJ q2, oS, iv p3, iv (3 : Int32), iv (if (p0 &&& (4 : Int32)) = (0 : Int32) then (0 : Int32) else (1 : Int32)), iv qq, iv r0, iv r1, iv r2, iv w0, iv w1, iv w2, rv b63, rv b64, oJ ((((w0.toInt64) * (r0.toInt64)) + ((w1.toInt64) * (r1.toInt64))) + ((w2.toInt64) * (r2.toInt64))), oS, oU, oU] [(.int qq), (.ref b64), (.ref b63)])) (fun t k => ?_) ?_
          · show Steps p.tables e below (T79.setTop (mkF m 246 #[iv p0, oJ q1, oS, oJ q2, oS, iv p3, iv (3 : Int32), iv (if (p0 &&& (4 : Int32)) = (0 : Int32) then (0 : Int32) else (1 : Int32)), iv qq, iv r0, iv r1, iv r2, iv w0, iv w1, iv w2, rv b63, rv b64, oJ (((w0.toInt64) * (r0.toInt64)) + ((w1.toInt64) * (r1.toInt64))), oS, oU, oU] [])) _
            refine XS.lload X79.here hx rfl (hb hby at_246) rfl ?_
            show Steps p.tables e below (T79.setTop (mkF m 248 #[iv p0, oJ q1, oS, oJ q2, oS, iv p3, iv (3 : Int32), iv (if (p0 &&& (4 : Int32)) = (0 : Int32) then (0 : Int32) else (1 : Int32)), iv qq, iv r0, iv r1, iv r2, iv w0, iv w1, iv w2, rv b63, rv b64, oJ (((w0.toInt64) * (r0.toInt64)) + ((w1.toInt64) * (r1.toInt64))), oS, oU, oU] [(.long (((w0.toInt64) * (r0.toInt64)) + ((w1.toInt64) * (r1.toInt64))))])) _
            refine XS.iload X79.here hx rfl (hb hby at_248) rfl ?_
            show Steps p.tables e below (T79.setTop (mkF m 250 #[iv p0, oJ q1, oS, oJ q2, oS, iv p3, iv (3 : Int32), iv (if (p0 &&& (4 : Int32)) = (0 : Int32) then (0 : Int32) else (1 : Int32)), iv qq, iv r0, iv r1, iv r2, iv w0, iv w1, iv w2, rv b63, rv b64, oJ (((w0.toInt64) * (r0.toInt64)) + ((w1.toInt64) * (r1.toInt64))), oS, oU, oU] [(.int w2), (.long (((w0.toInt64) * (r0.toInt64)) + ((w1.toInt64) * (r1.toInt64))))])) _
            refine XS.i2l X79.here hx rfl (hb hby at_250) rfl ?_
            show Steps p.tables e below (T79.setTop (mkF m 251 #[iv p0, oJ q1, oS, oJ q2, oS, iv p3, iv (3 : Int32), iv (if (p0 &&& (4 : Int32)) = (0 : Int32) then (0 : Int32) else (1 : Int32)), iv qq, iv r0, iv r1, iv r2, iv w0, iv w1, iv w2, rv b63, rv b64, oJ (((w0.toInt64) * (r0.toInt64)) + ((w1.toInt64) * (r1.toInt64))), oS, oU, oU] [(.long (w2.toInt64)), (.long (((w0.toInt64) * (r0.toInt64)) + ((w1.toInt64) * (r1.toInt64))))])) _
            refine XS.iload X79.here hx rfl (hb hby at_251) rfl ?_
            show Steps p.tables e below (T79.setTop (mkF m 253 #[iv p0, oJ q1, oS, oJ q2, oS, iv p3, iv (3 : Int32), iv (if (p0 &&& (4 : Int32)) = (0 : Int32) then (0 : Int32) else (1 : Int32)), iv qq, iv r0, iv r1, iv r2, iv w0, iv w1, iv w2, rv b63, rv b64, oJ (((w0.toInt64) * (r0.toInt64)) + ((w1.toInt64) * (r1.toInt64))), oS, oU, oU] [(.int r2), (.long (w2.toInt64)), (.long (((w0.toInt64) * (r0.toInt64)) + ((w1.toInt64) * (r1.toInt64))))])) _
            refine XS.i2l X79.here hx rfl (hb hby at_253) rfl ?_
            show Steps p.tables e below (T79.setTop (mkF m 254 #[iv p0, oJ q1, oS, oJ q2, oS, iv p3, iv (3 : Int32), iv (if (p0 &&& (4 : Int32)) = (0 : Int32) then (0 : Int32) else (1 : Int32)), iv qq, iv r0, iv r1, iv r2, iv w0, iv w1, iv w2, rv b63, rv b64, oJ (((w0.toInt64) * (r0.toInt64)) + ((w1.toInt64) * (r1.toInt64))), oS, oU, oU] [(.long (r2.toInt64)), (.long (w2.toInt64)), (.long (((w0.toInt64) * (r0.toInt64)) + ((w1.toInt64) * (r1.toInt64))))])) _
            refine XS.lmul X79.here hx rfl (hb hby at_254) rfl ?_
            show Steps p.tables e below (T79.setTop (mkF m 255 #[iv p0, oJ q1, oS, oJ q2, oS, iv p3, iv (3 : Int32), iv (if (p0 &&& (4 : Int32)) = (0 : Int32) then (0 : Int32) else (1 : Int32)), iv qq, iv r0, iv r1, iv r2, iv w0, iv w1, iv w2, rv b63, rv b64, oJ (((w0.toInt64) * (r0.toInt64)) + ((w1.toInt64) * (r1.toInt64))), oS, oU, oU] [(.long ((w2.toInt64) * (r2.toInt64))), (.long (((w0.toInt64) * (r0.toInt64)) + ((w1.toInt64) * (r1.toInt64))))])) _
            refine XS.ladd X79.here hx rfl (hb hby at_255) rfl ?_
            show Steps p.tables e below (T79.setTop (mkF m 256 #[iv p0, oJ q1, oS, oJ q2, oS, iv p3, iv (3 : Int32), iv (if (p0 &&& (4 : Int32)) = (0 : Int32) then (0 : Int32) else (1 : Int32)), iv qq, iv r0, iv r1, iv r2, iv w0, iv w1, iv w2, rv b63, rv b64, oJ (((w0.toInt64) * (r0.toInt64)) + ((w1.toInt64) * (r1.toInt64))), oS, oU, oU] [(.long ((((w0.toInt64) * (r0.toInt64)) + ((w1.toInt64) * (r1.toInt64))) + ((w2.toInt64) * (r2.toInt64))))])) _
            refine XS.lstore X79.here hx rfl (hb hby at_256) rfl (l' := #[iv p0, oJ q1, oS, oJ q2, oS, iv p3, iv (3 : Int32), iv (if (p0 &&& (4 : Int32)) = (0 : Int32) then (0 : Int32) else (1 : Int32)), iv qq, iv r0, iv r1, iv r2, iv w0, iv w1, iv w2, rv b63, rv b64, oJ ((((w0.toInt64) * (r0.toInt64)) + ((w1.toInt64) * (r1.toInt64))) + ((w2.toInt64) * (r2.toInt64))), oS, oU, oU]) rfl ?_
            show Steps p.tables e below (T79.setTop (mkF m 258 #[iv p0, oJ q1, oS, oJ q2, oS, iv p3, iv (3 : Int32), iv (if (p0 &&& (4 : Int32)) = (0 : Int32) then (0 : Int32) else (1 : Int32)), iv qq, iv r0, iv r1, iv r2, iv w0, iv w1, iv w2, rv b63, rv b64, oJ ((((w0.toInt64) * (r0.toInt64)) + ((w1.toInt64) * (r1.toInt64))) + ((w2.toInt64) * (r2.toInt64))), oS, oU, oU] [])) _
            refine XS.aload X79.here hx rfl (hb hby at_258) rfl rfl ?_
            show Steps p.tables e below (T79.setTop (mkF m 260 #[iv p0, oJ q1, oS, oJ q2, oS, iv p3, iv (3 : Int32), iv (if (p0 &&& (4 : Int32)) = (0 : Int32) then (0 : Int32) else (1 : Int32)), iv qq, iv r0, iv r1, iv r2, iv w0, iv w1, iv w2, rv b63, rv b64, oJ ((((w0.toInt64) * (r0.toInt64)) + ((w1.toInt64) * (r1.toInt64))) + ((w2.toInt64) * (r2.toInt64))), oS, oU, oU] [(.ref b63)])) _
            refine XS.aload X79.here hx rfl (hb hby at_260) rfl rfl ?_
            show Steps p.tables e below (T79.setTop (mkF m 262 #[iv p0, oJ q1, oS, oJ q2, oS, iv p3, iv (3 : Int32), iv (if (p0 &&& (4 : Int32)) = (0 : Int32) then (0 : Int32) else (1 : Int32)), iv qq, iv r0, iv r1, iv r2, iv w0, iv w1, iv w2, rv b63, rv b64, oJ ((((w0.toInt64) * (r0.toInt64)) + ((w1.toInt64) * (r1.toInt64))) + ((w2.toInt64) * (r2.toInt64))), oS, oU, oU] [(.ref b64), (.ref b63)])) _
            refine XS.iload X79.here hx rfl (hb hby at_262) rfl ?_
            show Steps p.tables e below (T79.setTop (mkF m 264 #[iv p0, oJ q1, oS, oJ q2, oS, iv p3, iv (3 : Int32), iv (if (p0 &&& (4 : Int32)) = (0 : Int32) then (0 : Int32) else (1 : Int32)), iv qq, iv r0, iv r1, iv r2, iv w0, iv w1, iv w2, rv b63, rv b64, oJ ((((w0.toInt64) * (r0.toInt64)) + ((w1.toInt64) * (r1.toInt64))) + ((w2.toInt64) * (r2.toInt64))), oS, oU, oU] [(.int qq), (.ref b64), (.ref b63)])) _
            exact k
          refine own_cc (own_callS X79 hx hZ (y := (⟨"com/example/rivulet/rivulet/flow/Flow", "expected", "([D[DI)D"⟩ : MethodName)) hown (hw _ (List.mem_of_getElem? (i := 3) rfl)) (hw _ (List.mem_of_getElem? (i := 4) rfl)) (hw _ (List.mem_of_getElem? (i := 5) rfl)) (hw _ (List.mem_of_getElem? (i := 6) rfl)) (by decide) (rm1_3n l Z a0 hw [] b63 b64 qq k63 k64 d66 d71 d76 d68 d73 d78 r0.toInt r1.toInt r2.toInt w0.toInt w1.toInt w2.toInt h79 n0 Z0 V_b63 V_b64 Y66 Y68 Y71 Y73 Y76 Y78 (fun q => hc80 q.symm) (fun q => hc87 q.symm) (fun q => hc94 q.symm)) e79 0 (by decide) (by decide) (by decide) (by decide) rfl (by rw [hml]; rfl) [(.ref b63), (.ref b64), (.int qq)] [] rfl (lenOf pd_0 rfl) rfl (by show 2 * 0 + _ ≤ _; exact Nat.le_of_eq rfl) (hb hby at_264)) fun T102 L102 v102 X102 hQ102 => ?_
          obtain ⟨x_102, rfl, N102, e102, YX'⟩ := hQ102
          replace N0 := Fr.app N0 N102
          have YX := YX'
          show own_Go p e below _ (T102.setTop (mkF m 267 #[iv p0, oJ q1, oS, oJ q2, oS, iv p3, iv (3 : Int32), iv (if (p0 &&& (4 : Int32)) = (0 : Int32) then (0 : Int32) else (1 : Int32)), iv qq, iv r0, iv r1, iv r2, iv w0, iv w1, iv w2, rv b63, rv b64, oJ ((((w0.toInt64) * (r0.toInt64)) + ((w1.toInt64) * (r1.toInt64))) + ((w2.toInt64) * (r2.toInt64))), oS, oU, oU] [(.double x_102)]))
          refine own_by (B := T102.setTop (mkF m 274 #[iv p0, oJ q1, oS, oJ q2, oS, iv p3, iv (3 : Int32), iv (if (p0 &&& (4 : Int32)) = (0 : Int32) then (0 : Int32) else (1 : Int32)), iv qq, iv r0, iv r1, iv r2, iv w0, iv w1, iv w2, rv b63, rv b64, oJ ((((w0.toInt64) * (r0.toInt64)) + ((w1.toInt64) * (r1.toInt64))) + ((w2.toInt64) * (r2.toInt64))), oS, oD x_102, oS] [(.double (4652218415073722368 : UInt64)), (.double x_102)])) (fun t k => ?_) ?_
          · show Steps p.tables e below (T102.setTop (mkF m 267 #[iv p0, oJ q1, oS, oJ q2, oS, iv p3, iv (3 : Int32), iv (if (p0 &&& (4 : Int32)) = (0 : Int32) then (0 : Int32) else (1 : Int32)), iv qq, iv r0, iv r1, iv r2, iv w0, iv w1, iv w2, rv b63, rv b64, oJ ((((w0.toInt64) * (r0.toInt64)) + ((w1.toInt64) * (r1.toInt64))) + ((w2.toInt64) * (r2.toInt64))), oS, oU, oU] [(.double x_102)])) _
            refine XS.dstore X102.here hx rfl (hb hby at_267) rfl (l' := #[iv p0, oJ q1, oS, oJ q2, oS, iv p3, iv (3 : Int32), iv (if (p0 &&& (4 : Int32)) = (0 : Int32) then (0 : Int32) else (1 : Int32)), iv qq, iv r0, iv r1, iv r2, iv w0, iv w1, iv w2, rv b63, rv b64, oJ ((((w0.toInt64) * (r0.toInt64)) + ((w1.toInt64) * (r1.toInt64))) + ((w2.toInt64) * (r2.toInt64))), oS, oD x_102, oS]) rfl ?_
            show Steps p.tables e below (T102.setTop (mkF m 269 #[iv p0, oJ q1, oS, oJ q2, oS, iv p3, iv (3 : Int32), iv (if (p0 &&& (4 : Int32)) = (0 : Int32) then (0 : Int32) else (1 : Int32)), iv qq, iv r0, iv r1, iv r2, iv w0, iv w1, iv w2, rv b63, rv b64, oJ ((((w0.toInt64) * (r0.toInt64)) + ((w1.toInt64) * (r1.toInt64))) + ((w2.toInt64) * (r2.toInt64))), oS, oD x_102, oS] [])) _
            refine XS.dload X102.here hx rfl (hb hby at_269) rfl ?_
            show Steps p.tables e below (T102.setTop (mkF m 271 #[iv p0, oJ q1, oS, oJ q2, oS, iv p3, iv (3 : Int32), iv (if (p0 &&& (4 : Int32)) = (0 : Int32) then (0 : Int32) else (1 : Int32)), iv qq, iv r0, iv r1, iv r2, iv w0, iv w1, iv w2, rv b63, rv b64, oJ ((((w0.toInt64) * (r0.toInt64)) + ((w1.toInt64) * (r1.toInt64))) + ((w2.toInt64) * (r2.toInt64))), oS, oD x_102, oS] [(.double x_102)])) _
            refine X102.ldc2DoubleC hx hown (mvT hZ (hw _ (List.mem_of_getElem? (i := 7) rfl))) (g := (mkF m 271 #[iv p0, oJ q1, oS, oJ q2, oS, iv p3, iv (3 : Int32), iv (if (p0 &&& (4 : Int32)) = (0 : Int32) then (0 : Int32) else (1 : Int32)), iv qq, iv r0, iv r1, iv r2, iv w0, iv w1, iv w2, rv b63, rv b64, oJ ((((w0.toInt64) * (r0.toInt64)) + ((w1.toInt64) * (r1.toInt64))) + ((w2.toInt64) * (r2.toInt64))), oS, oD x_102, oS] [(.double x_102)])) rfl (hb hby at_271) _ ?_
            show Steps p.tables e below (T102.setTop (mkF m 274 #[iv p0, oJ q1, oS, oJ q2, oS, iv p3, iv (3 : Int32), iv (if (p0 &&& (4 : Int32)) = (0 : Int32) then (0 : Int32) else (1 : Int32)), iv qq, iv r0, iv r1, iv r2, iv w0, iv w1, iv w2, rv b63, rv b64, oJ ((((w0.toInt64) * (r0.toInt64)) + ((w1.toInt64) * (r1.toInt64))) + ((w2.toInt64) * (r2.toInt64))), oS, oD x_102, oS] [(.double (4652218415073722368 : UInt64)), (.double x_102)])) _
            exact k
          have Y103 : own_Di (((0 + (w0.toInt * r0.toInt)) + (w1.toInt * r1.toInt)) + (w2.toInt * r2.toInt)) 100663296 (FP.dmul x_102 (4652218415073722368 : UInt64)) := (own_dback YX (by decide))
          refine own_by (fun t k => XS.dmulS X102.here hx rfl (hb hby at_274) rfl (own_nnI Y103) rfl k) ?_
          generalize (FP.dmul x_102 (4652218415073722368 : UInt64)) = d103 at Y103 ⊢
          show own_Go p e below _ (T102.setTop (mkF m 275 #[iv p0, oJ q1, oS, oJ q2, oS, iv p3, iv (3 : Int32), iv (if (p0 &&& (4 : Int32)) = (0 : Int32) then (0 : Int32) else (1 : Int32)), iv qq, iv r0, iv r1, iv r2, iv w0, iv w1, iv w2, rv b63, rv b64, oJ ((((w0.toInt64) * (r0.toInt64)) + ((w1.toInt64) * (r1.toInt64))) + ((w2.toInt64) * (r2.toInt64))), oS, oD x_102, oS] [(.double d103)]))
          refine own_by (B := T102.setTop (mkF m 277 #[iv p0, oJ q1, oS, oJ q2, oS, iv p3, iv (3 : Int32), iv (if (p0 &&& (4 : Int32)) = (0 : Int32) then (0 : Int32) else (1 : Int32)), iv qq, iv r0, iv r1, iv r2, iv w0, iv w1, iv w2, rv b63, rv b64, oJ ((((w0.toInt64) * (r0.toInt64)) + ((w1.toInt64) * (r1.toInt64))) + ((w2.toInt64) * (r2.toInt64))), oS, oD x_102, oS] [(.long ((((w0.toInt64) * (r0.toInt64)) + ((w1.toInt64) * (r1.toInt64))) + ((w2.toInt64) * (r2.toInt64)))), (.double d103)])) (fun t k => ?_) ?_
          · show Steps p.tables e below (T102.setTop (mkF m 275 #[iv p0, oJ q1, oS, oJ q2, oS, iv p3, iv (3 : Int32), iv (if (p0 &&& (4 : Int32)) = (0 : Int32) then (0 : Int32) else (1 : Int32)), iv qq, iv r0, iv r1, iv r2, iv w0, iv w1, iv w2, rv b63, rv b64, oJ ((((w0.toInt64) * (r0.toInt64)) + ((w1.toInt64) * (r1.toInt64))) + ((w2.toInt64) * (r2.toInt64))), oS, oD x_102, oS] [(.double d103)])) _
            refine XS.lload X102.here hx rfl (hb hby at_275) rfl ?_
            show Steps p.tables e below (T102.setTop (mkF m 277 #[iv p0, oJ q1, oS, oJ q2, oS, iv p3, iv (3 : Int32), iv (if (p0 &&& (4 : Int32)) = (0 : Int32) then (0 : Int32) else (1 : Int32)), iv qq, iv r0, iv r1, iv r2, iv w0, iv w1, iv w2, rv b63, rv b64, oJ ((((w0.toInt64) * (r0.toInt64)) + ((w1.toInt64) * (r1.toInt64))) + ((w2.toInt64) * (r2.toInt64))), oS, oD x_102, oS] [(.long ((((w0.toInt64) * (r0.toInt64)) + ((w1.toInt64) * (r1.toInt64))) + ((w2.toInt64) * (r2.toInt64)))), (.double d103)])) _
            exact k
          have t105_0 := own_pr w0 r0 bw0 br0
          have t105_1 := own_pr w1 r1 bw1 br1
          have s105_1 := own_sm _ _ _ _ t105_0.2 t105_1.2 (show 33554432 + 33554432 ≤ 2 ^ 53 by decide)
          have t105_2 := own_pr w2 r2 bw2 br2
          have s105_2 := own_sm _ _ _ _ s105_1.2 t105_2.2 (show 67108864 + 33554432 ≤ 2 ^ 53 by decide)
          have Y104 : own_Di ((((w0.toInt64) * (r0.toInt64)) + ((w1.toInt64) * (r1.toInt64))) + ((w2.toInt64) * (r2.toInt64))).toInt 100663296 (FP.l2d ((((w0.toInt64) * (r0.toInt64)) + ((w1.toInt64) * (r1.toInt64))) + ((w2.toInt64) * (r2.toInt64)))) := (own_l2d ((((w0.toInt64) * (r0.toInt64)) + ((w1.toInt64) * (r1.toInt64))) + ((w2.toInt64) * (r2.toInt64))) 100663296 s105_2.2 (by decide))
          refine own_by (fun t k => XS.l2dS X102.here hx rfl (hb hby at_277) rfl rfl k) ?_
          generalize (FP.l2d ((((w0.toInt64) * (r0.toInt64)) + ((w1.toInt64) * (r1.toInt64))) + ((w2.toInt64) * (r2.toInt64)))) = d104 at Y104 ⊢
          show own_Go p e below _ (T102.setTop (mkF m 278 #[iv p0, oJ q1, oS, oJ q2, oS, iv p3, iv (3 : Int32), iv (if (p0 &&& (4 : Int32)) = (0 : Int32) then (0 : Int32) else (1 : Int32)), iv qq, iv r0, iv r1, iv r2, iv w0, iv w1, iv w2, rv b63, rv b64, oJ ((((w0.toInt64) * (r0.toInt64)) + ((w1.toInt64) * (r1.toInt64))) + ((w2.toInt64) * (r2.toInt64))), oS, oD x_102, oS] [(.double d104), (.double d103)]))
          refine own_by (fun t k => XS.dcmpS X102.here hx rfl (hb hby at_278) rfl (v := (0 : Int32)) (own_dcmp Y103 Y104 (by simp only [Int.zero_add, t105_0.1, s105_1.1, t105_1.1, s105_2.1, t105_2.1]) .l) k) ?_
          show own_Go p e below _ (T102.setTop (mkF m 279 #[iv p0, oJ q1, oS, oJ q2, oS, iv p3, iv (3 : Int32), iv (if (p0 &&& (4 : Int32)) = (0 : Int32) then (0 : Int32) else (1 : Int32)), iv qq, iv r0, iv r1, iv r2, iv w0, iv w1, iv w2, rv b63, rv b64, oJ ((((w0.toInt64) * (r0.toInt64)) + ((w1.toInt64) * (r1.toInt64))) + ((w2.toInt64) * (r2.toInt64))), oS, oD x_102, oS] [(.int (0 : Int32))]))
          refine own_by (B := T102.setTop (mkF m 287 #[iv p0, oJ q1, oS, oJ q2, oS, iv p3, iv (3 : Int32), iv (if (p0 &&& (4 : Int32)) = (0 : Int32) then (0 : Int32) else (1 : Int32)), iv qq, iv r0, iv r1, iv r2, iv w0, iv w1, iv w2, rv b63, rv b64, oJ ((((w0.toInt64) * (r0.toInt64)) + ((w1.toInt64) * (r1.toInt64))) + ((w2.toInt64) * (r2.toInt64))), oS, oD x_102, oS] [(.int (1 : Int32))])) (fun t k => ?_) ?_
          · show Steps p.tables e below (T102.setTop (mkF m 279 #[iv p0, oJ q1, oS, oJ q2, oS, iv p3, iv (3 : Int32), iv (if (p0 &&& (4 : Int32)) = (0 : Int32) then (0 : Int32) else (1 : Int32)), iv qq, iv r0, iv r1, iv r2, iv w0, iv w1, iv w2, rv b63, rv b64, oJ ((((w0.toInt64) * (r0.toInt64)) + ((w1.toInt64) * (r1.toInt64))) + ((w2.toInt64) * (r2.toInt64))), oS, oD x_102, oS] [(.int (0 : Int32))])) _
            refine XS.ifNo X102.here hx rfl (hb hby at_279) rfl ((if0 _ _).trans (teq (by decide : (0 : Int32) = (0 : Int32))).2) ?_
            show Steps p.tables e below (T102.setTop (mkF m 282 #[iv p0, oJ q1, oS, oJ q2, oS, iv p3, iv (3 : Int32), iv (if (p0 &&& (4 : Int32)) = (0 : Int32) then (0 : Int32) else (1 : Int32)), iv qq, iv r0, iv r1, iv r2, iv w0, iv w1, iv w2, rv b63, rv b64, oJ ((((w0.toInt64) * (r0.toInt64)) + ((w1.toInt64) * (r1.toInt64))) + ((w2.toInt64) * (r2.toInt64))), oS, oD x_102, oS] [])) _
            refine XS.iconst X102.here hx rfl (hb hby at_282) ?_
            show Steps p.tables e below (T102.setTop (mkF m 283 #[iv p0, oJ q1, oS, oJ q2, oS, iv p3, iv (3 : Int32), iv (if (p0 &&& (4 : Int32)) = (0 : Int32) then (0 : Int32) else (1 : Int32)), iv qq, iv r0, iv r1, iv r2, iv w0, iv w1, iv w2, rv b63, rv b64, oJ ((((w0.toInt64) * (r0.toInt64)) + ((w1.toInt64) * (r1.toInt64))) + ((w2.toInt64) * (r2.toInt64))), oS, oD x_102, oS] [(.int (1 : Int32))])) _
            refine XS.goto X102.here hx rfl (pc0 := 283) (pc' := 287) rfl (hb hby at_283) (by decide) (by decide) ?_
            show Steps p.tables e below (T102.setTop (mkF m 287 #[iv p0, oJ q1, oS, oJ q2, oS, iv p3, iv (3 : Int32), iv (if (p0 &&& (4 : Int32)) = (0 : Int32) then (0 : Int32) else (1 : Int32)), iv qq, iv r0, iv r1, iv r2, iv w0, iv w1, iv w2, rv b63, rv b64, oJ ((((w0.toInt64) * (r0.toInt64)) + ((w1.toInt64) * (r1.toInt64))) + ((w2.toInt64) * (r2.toInt64))), oS, oD x_102, oS] [(.int (1 : Int32))])) _
            exact k
          exact own_retN X102 Bd.notSynchronized hx (t := .boolean) Bd.returns (by simp) (hb hby at_287) (by
              try rw [show T102.heap = h79 from e102]
              exact ⟨rfl, N0⟩) (by decide) (by decide)

set_option maxRecDepth 65536 in
set_option maxHeartbeats 40000000 in
theorem comes_1 {Post : Tables → Env → Array Value → State → Outcome → State → Prop} (hpost : ∀ tb e args s v u, (limb_1_1.after args s (.returned v) u = true ∧ limb_1_2.after args s (.returned v) u = true ∧ True) → FrameEnd s (.returned v) u (Jvm.fieldLocs frame_1_writes args s ++ Jvm.arrayLocs frame_1_arrays args s ++ Jvm.staticLocs frame_1_statics s) 16 128 → Post tb e args s (.returned v) u) :
    ArmFor flags0 classFile x code maxLocals ret World_1 tables_1 room_1 Calls_1 rest_1 Pre_1 Post := by
  intro l hfl _ _ p e ha hc hk s m args below hf hA hF happ hP
  obtain ⟨hcalls, hrest, hpre⟩ := hP
  obtain ⟨-, -, -, hnamed, -, -, -, hat⟩ := (Spec.applies_iff hf).mp happ
  obtain ⟨hg, hn⟩ := and_e (Cond.before_iff.mp (show (Jvm.Cond.and given_1 narrow_1).before args s = true from hpre))
  obtain ⟨g0, g0'⟩ := and_e hg
  obtain ⟨g1, g1'⟩ := and_e g0'
  obtain ⟨g2, g2'⟩ := and_e g1'
  obtain ⟨g3, g3'⟩ := and_e g2'
  obtain ⟨w0, w1, w2, w3, rfl⟩ : ∃ w0 w1 w2 w3 : Value, args = #[w0, w1, w2, w3] := by
    have hs : args.size = 4 := by simpa [Cond.value, given_1] using g0
    obtain ⟨L⟩ := args
    match L, hs with
    | [w0, w1, w2, w3], _ => exact ⟨w0, w1, w2, w3, rfl⟩
  have hw := fun d (hd : d ∈ tables_1) => atoms_spec (ws := Jvm.Cond.code x code maxLocals ret :: tables_1) hat d (List.mem_cons_of_mem _ hd)
  have hfit : Fit s := fun {y c} hc i hi => by
    obtain ⟨ha, rfl⟩ := Array.getElem?_eq_some_iff.mp hc
    have q := List.all_eq_true.mp ((Array.all_eq_true_iff_forall_mem.mp hF) _ (Array.getElem_mem ha)) i (List.mem_range.mpr hi)
    simpa [Array.getElem?_eq_getElem hi] using q
  obtain ⟨i0, ei0⟩ := is_v g1
  obtain rfl : w0 = (.int i0) := Option.some.inj ei0
  obtain ⟨i1, ei1⟩ := isL_v g2
  obtain rfl : w1 = (.long i1) := Option.some.inj ei1
  obtain ⟨i2, ei2⟩ := isL_v g3
  obtain rfl : w2 = (.long i2) := Option.some.inj ei2
  obtain ⟨i3, ei3⟩ := is_v g3'
  obtain rfl : w3 = (.int i3) := Option.some.inj ei3
  obtain ⟨n, o, h1, h2, h3, _, L, rfl, ⟨rfl, N⟩, hq⟩ := rm0 l s _ hw tables_1 i0 i1 i2 i3 s.heap s.heap.size (Nat.le_refl _) p e ha hc hk s m _ below hf ((Spec.applies_iff_loose hf).mp happ).1 ⟨rfl, State.Warmed39.refl s, rfl⟩ trivial
  refine ⟨n, _, h1, h2, h3, hpost _ _ _ _ _ _ ⟨Cond.after_iff.mpr rfl, Cond.after_iff.mpr (eq_i res_at (Term.int_eval (1)) rfl), trivial⟩ ⟨hq.1, hq.2.1, (hq.2.2.sift fun y hy => Or.inr (N y hy)).mono (by decide) (by decide)⟩⟩
theorem main_1_1 : Claimed_1_1 := comes_1 fun _ _ _ _ _ _ h hF => ⟨h.1, hF⟩
theorem main_1_2 : Claimed_1_2 := comes_1 fun _ _ _ _ _ _ h hF => ⟨h.2.1, hF⟩
end Jvm.Pilot.@@N@@
namespace Jvm.Pilot.@@N@@
open Jvm Jvm.ClassFile Sem Op Lib Jvm.Free Jvm.Stand Jvm.Pilot.@@N@@.Jvm.D
/-! MADE BY PROGRAM (witnessworld.py) out of the Statement's table words and the real class files: 11 classes; the members and pool entries that the words name. The judged class is class 1, her method 1. -/
namespace start1
open Jvm.ClassFile
def u (s : String) : CpInfo := .utf8 (stringToUtf16 s)
/-- a pool by its gaps: so many unusable entries, then the entry; so many at the end -/
def gap : Nat → List CpInfo → List CpInfo
  | 0, r => r
  | n + 1, r => .unusable :: gap n r
def poolList (es : List (Nat × CpInfo)) (last : Nat) : List CpInfo := es.foldr (fun e r => gap e.1 (e.2 :: r)) (gap last [])
def pool (es : List (Nat × CpInfo)) (last : Nat) : Array CpInfo := ⟨poolList es last⟩
def fileOf (pool : Array CpInfo) (this : Nat) (attrs : Array Attribute := #[]) (ms : Array MethodInfo := #[]) (fl : Nat := 33) (sup : Nat := 0) (ifs : Array Nat := #[]) (fds : Array FieldInfo := #[]) : ClassFile where
  minorVersion := 0
  majorVersion := 65
  constantPool := pool
  accessFlags := fl
  thisClass := this
  superClass := sup
  interfaces := ifs
  fields := fds
  methods := ms
  attributes := attrs
def plain (name : String) (sup : Option ClassId) : Class where
  name := name
  kind := .ordinary
  loader := none
  accessFlags := 33
  super := sup
  interfaces := #[]
  cf := none
  fields := #[]
  methods := #[]
  instanceTypes := #[]
  staticTypes := #[]
  resolved := #[]
  callSites := []
  init := .initialized
  statics := none
  mirror := none

def pool0 : Array CpInfo := pool [(5, u "<init>"), (0, u "()V"), (1, .class_ 10), (1, u "java/lang/Object")] 113

def k0m0 : Method := { name := "<init>", desc := "()V", sig := { parameters := [], returnType := none }, accessFlags := 1, code := none }
/-- java/lang/Object -/
def k0 : Class := { plain "java/lang/Object" none with
  accessFlags := 33
  interfaces := #[]
  cf := some (fileOf pool0 8 #[] #[{ accessFlags := 1, nameIndex := 5, descriptorIndex := 6, attributes := #[] }] 33 0 #[] #[])
  fields := #[]
  methods := #[k0m0]
  instanceTypes := #[]
  staticTypes := #[]
  resolved := Array.replicate 124 none
  statics := none }

def pool1 : Array CpInfo := pool [(2, .class_ 4), (1, u "java/lang/Object"), (0, u "<init>"), (0, u "()V"), (0, .integer 2147483647), (0, .long 2047), (1, .double 4652218415073722368), (1, .methodref 13 14), (0, .class_ 15), (0, .nameAndType 16 17), (0, u "com/example/rivulet/rivulet/flow/Flow"), (0, u "expected"), (0, u "([D[DI)D"), (0, .class_ 19), (0, u "com/example/rivulet/rivulet/flow/FlowExpectedPinLaw"), (2, u "law"), (0, u "(IJJI)Z")] 5

def k1m0 : Method := { name := "<init>", desc := "()V", sig := { parameters := [], returnType := none }, accessFlags := 2, code := none }
def k1c1 : Code := { maxStack := 6, maxLocals := 21, code := code, exceptionTable := #[], attributes := #[] }
def k1m1 : Method := { name := "law", desc := "(IJJI)Z", sig := { parameters := [.int, .long, .long, .int], returnType := some .boolean }, accessFlags := 9, code := some k1c1 }
/-- com/example/rivulet/rivulet/flow/FlowExpectedPinLaw -/
def k1 : Class := { plain "com/example/rivulet/rivulet/flow/FlowExpectedPinLaw" (some 0) with
  accessFlags := 49
  interfaces := #[]
  cf := some (fileOf pool1 18 #[] #[{ accessFlags := 2, nameIndex := 5, descriptorIndex := 6, attributes := #[] }, { accessFlags := 9, nameIndex := 22, descriptorIndex := 23, attributes := #[] }] 49 2 #[] #[])
  fields := #[]
  methods := #[k1m0, k1m1]
  instanceTypes := #[]
  staticTypes := #[]
  resolved := Array.replicate 29 none
  statics := none }

def pool2 : Array CpInfo := pool [(2, .class_ 4), (1, u "java/lang/Object"), (0, u "<init>"), (0, u "()V"), (56, .class_ 64), (0, u "com/example/rivulet/rivulet/flow/Flow"), (10, u "expected"), (0, u "([D[DI)D")] 2

def k2m0 : Method := { name := "<init>", desc := "()V", sig := { parameters := [], returnType := none }, accessFlags := 2, code := none }
def k2c1 : Code := { maxStack := 6, maxLocals := 6, code := prog_17_method_4_code, exceptionTable := #[], attributes := #[] }
def k2m1 : Method := { name := "expected", desc := "([D[DI)D", sig := { parameters := [(.array .double), (.array .double), .int], returnType := some .double }, accessFlags := 9, code := some k2c1 }
/-- com/example/rivulet/rivulet/flow/Flow -/
def k2 : Class := { plain "com/example/rivulet/rivulet/flow/Flow" (some 0) with
  accessFlags := 49
  interfaces := #[]
  cf := some (fileOf pool2 63 #[] #[{ accessFlags := 2, nameIndex := 5, descriptorIndex := 6, attributes := #[] }, { accessFlags := 9, nameIndex := 75, descriptorIndex := 76, attributes := #[] }] 49 2 #[] #[])
  fields := #[]
  methods := #[k2m0, k2m1]
  instanceTypes := #[]
  staticTypes := #[]
  resolved := Array.replicate 79 none
  statics := none }

def pool3 : Array CpInfo := pool [(1, u "java/lang/Cloneable"), (0, .class_ 1), (0, u "java/lang/Object"), (0, .class_ 3)] 3

/-- java/lang/Cloneable -/
def k3 : Class := { plain "java/lang/Cloneable" (some 0) with
  accessFlags := 1537
  interfaces := #[]
  cf := some (fileOf pool3 2 #[] #[] 1537 4 #[] #[])
  fields := #[]
  methods := #[]
  instanceTypes := #[]
  staticTypes := #[]
  resolved := Array.replicate 8 none
  statics := none }

def pool4 : Array CpInfo := pool [(1, u "java/io/Serializable"), (0, .class_ 1), (0, u "java/lang/Object"), (0, .class_ 3)] 3

/-- java/io/Serializable -/
def k4 : Class := { plain "java/io/Serializable" (some 0) with
  accessFlags := 1537
  interfaces := #[]
  cf := some (fileOf pool4 2 #[] #[] 1537 4 #[] #[])
  fields := #[]
  methods := #[]
  instanceTypes := #[]
  staticTypes := #[]
  resolved := Array.replicate 8 none
  statics := none }

/-- the primitive byte -/
def k5 : Class := { plain "byte" none with kind := .primitive 'B', accessFlags := 0x411 }
/-- [B -/
def k6 : Class := { plain "[B" (some 0) with kind := .array 5 .byte, interfaces := #[3, 4], accessFlags := 1041 }

/-- the primitive double -/
def k7 : Class := { plain "double" none with kind := .primitive 'D', accessFlags := 0x411 }
/-- [D -/
def k8 : Class := { plain "[D" (some 0) with kind := .array 7 .double, interfaces := #[3, 4], accessFlags := 1041 }

/-- the primitive int -/
def k9 : Class := { plain "int" none with kind := .primitive 'I', accessFlags := 0x411 }
/-- [I -/
def k10 : Class := { plain "[I" (some 0) with kind := .array 9 .int, interfaces := #[3, 4], accessFlags := 1041 }

def heap : Heap := #[]
def classes : Array Class := #[k0, k1, k2, k3, k4, k5, k6, k7, k8, k9, k10]
def interned : List (Array UInt16 × Addr) := []
def slotsUsed : Nat := 0
def theMethod : MethodId := ⟨1, 1⟩
def args0 : Array Value := #[.int 5, .long 7, .long 9, .int 3]
def aboutOver (below : List Frame) : State where
  vm := { classes := classes, interned := interned.toArray }
  heap := heap
  slotsUsed := slotsUsed
  threads := #[{ frames := .invoking theMethod args0 :: below }]
def below0 : List Frame := [.native { method := ⟨0, 0⟩, args := #[] }]
def about1 : State := aboutOver below0
def p0 : Program := .bare "" "" ""
def e0 : Env := launch0.env 0 0 0
theorem w_frames : about1.frames = Frame.invoking theMethod args0 :: below0 := rfl
set_option maxRecDepth 65536 in
theorem w_args : argsFit about1.vm theMethod args0 = true := by decide +kernel
set_option maxRecDepth 65536 in
theorem w_heap : heapFits about1 = true := by decide +kernel
set_option maxRecDepth 65536 in
theorem w_runnable : about1.curStatus? = some .runnable := by decide +kernel
set_option maxRecDepth 65536 in
theorem w_alone : about1.alone = true := by decide +kernel
set_option maxRecDepth 65536 in
theorem w_named : about1.methodNamed? x = some theMethod := by decide +kernel
set_option maxRecDepth 65536 in
theorem w_hears : about1.hears theMethod below0 = true := by decide +kernel
set_option maxRecDepth 65536 in
theorem w_ripe : about1.ripe theMethod args0 below0 = true := by decide +kernel
theorem w_running : about1.status = .running := rfl
set_option maxRecDepth 65536 in
theorem w_room : about1.hasRoom e0.platform room_1 = true :=
  launch0.hasRoom_least _ room_1 (by decide +kernel) (by decide +kernel) (by decide +kernel) (by decide +kernel) (by decide +kernel) (by decide +kernel)
theorem allAtoms_all (ts : List Jvm.Cond) (a : Array Jvm.Value) (st : Jvm.State) : (allAtoms ts).before a st = ts.all (fun c => c.before a st) := by
  induction ts with
  | nil => rfl
  | cons c t ih =>
    show (Jvm.Cond.and c (allAtoms t)).before a st = _
    rw [Jvm.Cond.before_and, ih, List.all_cons]
def words1 : List Jvm.Cond := Jvm.Cond.code x code maxLocals ret :: tables_1
/-- a 'code' word, met by the world's own term for the bytes: nothing is compared byte by byte -/
theorem code_word {y : MethodName} {bytes : ByteArray} {mx : Nat} {rt : Option FieldType} {a : Array Value} {s : State} {m : MethodId} {meth : Method} {c : Code} (h1 : s.methodNamed? y = some m) (h2 : s.vm.method? m = some meth) (h3 : meth.code = some c) (h4 : c.code = bytes)
    (h5 : (c.maxLocals == mx && c.exceptionTable.isEmpty && decide (c.maxStack ≤ mostOperands) && decide (meth.sig.returnType = rt) && !meth.locks && decide (parseMethodDescriptor y.desc = some meth.sig)) = true) : (Jvm.Cond.code y bytes mx rt).before a s = true := by
  simp only [Bool.and_eq_true, beq_iff_eq, Bool.not_eq_true', decide_eq_true_eq] at h5
  obtain ⟨⟨⟨⟨⟨g1, g2⟩, g3⟩, g4⟩, g5⟩, g6⟩ := h5
  simp [Cond.before, Cond.holds, Cond.value, h1, h2, h3, h4, g1, g2, g3, g4, g5, g6]
def isCode : Jvm.Cond → Bool
  | .code _ _ _ _ => true
  | _ => false
theorem all_split {L : List Jvm.Cond} {P : Jvm.Cond → Bool} (h1 : L.all (fun c => isCode c || P c) = true) (h2 : ∀ c ∈ L.filter isCode, P c = true) : L.all P = true := by
  refine List.all_eq_true.mpr fun c hc => ?_
  have h := List.all_eq_true.mp h1 c hc
  rcases Bool.eq_false_or_eq_true (isCode c) with hi | hi
  · exact h2 c (List.mem_filter.mpr ⟨hc, hi⟩)
  · simpa [hi] using h
set_option maxRecDepth 65536 in
theorem w_c0 : (Jvm.Cond.code x code maxLocals ret).before args0 about1 = true := code_word (m := ⟨1, 1⟩) (meth := k1m1) (c := k1c1) (by decide +kernel) rfl rfl rfl (by decide +kernel)
set_option maxRecDepth 65536 in
theorem w_c1 : (Jvm.Cond.code ({ cls := "com/example/rivulet/rivulet/flow/Flow", name := "expected", desc := "([D[DI)D" } : Jvm.MethodName) prog_17_method_4_code (6 : Nat) (Option.some Jvm.ClassFile.FieldType.double)).before args0 about1 = true := code_word (m := ⟨2, 1⟩) (meth := k2m1) (c := k2c1) (by decide +kernel) rfl rfl rfl (by decide +kernel)
def codes1 : List Jvm.Cond := [Jvm.Cond.code x code maxLocals ret, Jvm.Cond.code ({ cls := "com/example/rivulet/rivulet/flow/Flow", name := "expected", desc := "([D[DI)D" } : Jvm.MethodName) prog_17_method_4_code (6 : Nat) (Option.some Jvm.ClassFile.FieldType.double)]
set_option maxRecDepth 65536 in
theorem codes_eq : words1.filter isCode = codes1 := rfl
theorem w_codes : ∀ c ∈ words1.filter isCode, c.before args0 about1 = true := by
  rw [codes_eq]
  intro c hc
  simp only [codes1, List.mem_cons, List.not_mem_nil, or_false] at hc
  rcases hc with rfl | rfl
  · exact w_c0
  · exact w_c1
set_option maxRecDepth 65536 in
theorem w_t1 : words1.all (fun c => isCode c || c.before args0 about1) = true := by decide +kernel
theorem w_tables : (allAtoms (Jvm.Cond.code x code maxLocals ret :: tables_1)).before args0 about1 = true := by
  rw [allAtoms_all]
  show words1.all (fun c => c.before args0 about1) = true
  refine all_split ?_ w_codes
  rw [w_t1]
set_option maxRecDepth 65536 in
theorem w_case : (Jvm.Cond.and given_1 narrow_1).before args0 about1 = true := by decide +kernel
theorem w_applies : (headSpec (Jvm.Cond.code x code maxLocals ret :: tables_1) room_1).applies x e0.platform about1 = true :=
  (Spec.applies_iff w_frames).mpr ⟨w_running, w_runnable, w_alone, w_named, w_hears, w_ripe, w_room, w_tables⟩
theorem atStart : AtStart classFile x code maxLocals ret World_1 tables_1 room_1 Calls_1 rest_1 Pre_1 launch0 p0 e0 about1 theMethod args0 below0 :=
  ⟨lists_1, trivial, launch0.admits_env _ _ _, launch0.least_env, fairChoices_fair.cas, fairChoices_fair.clock, w_frames, w_args, w_heap, w_applies, trivial, trivial, w_case⟩
end start1
theorem witness_1 : WitnessClaimed_1 := ⟨start1.p0, start1.e0, start1.about1, start1.theMethod, start1.args0, start1.below0, start1.atStart⟩
end Jvm.Pilot.@@N@@
